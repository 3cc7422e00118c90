import JvmDerived
import JvmDerived.Pilot.@@N@@Statement
import JvmDerived.Pilot.@@N@@Code
set_option linter.unusedVariables false
set_option linter.unusedSimpArgs false
@@BLOCK:NumsL.lean.txt@@
namespace Jvm.RoadKit
open Sem ClassFile Op Lib Jvm.Stand Jvm.Free Jvm.LawKit
section Own
variable {p : Program} {l : Launch} {e : Env} {R : Room} {s : State} {m : MethodId} {args : Array Value} {below : List Frame} {meth : Method} {c : Code} {T : State} {locs : List Loc} {cells slots : Nat}
/-- from t the run ends in a return of which Q holds -/
def OGo (p : Program) (e : Env) (below : List Frame) (s : State) (Q : Option Value → Heap → List Loc → Prop) (C N : Nat) (t : State) : Prop :=
  ∃ s₂ o, Steps p.tables e below t s₂ ∧ s₂.status = .running ∧ Ended s₂ below o ∧ ∃ v L, o = .returned v ∧ Q v s₂.heap L ∧ FrameEnd s o s₂ L C N
theorem OGo.st {Q : Option Value → Heap → List Loc → Prop} {C N : Nat} {t t' : State} (k : ∀ target, Steps p.tables e below t' target → Steps p.tables e below t target) (h : OGo p e below s Q C N t') : OGo p e below s Q C N t := by
  obtain ⟨s₂, o, a, r⟩ := h; exact ⟨s₂, o, k _ a, r⟩
theorem oretW {Q : Option Value → Heap → List Loc → Prop} {C N : Nat} (X : Stand p l e R s m args below meth c T locs cells slots) (hx : p.tables.exec = Jvm.exec) (hlk : meth.locks = false) {pc : Nat} {Ls : Array Slot} {w : Value} {t : FieldType} {i : Instr} {rest : List Value} (hret : meth.sig.returnType = some t) (hn : narrow t w = w)
    (hi : (i = .ireturn ∧ (t = .int ∨ t = .boolean ∨ t = .byte ∨ t = .char ∨ t = .short) ∧ ∃ z, w = .int z) ∨ (i = .lreturn ∧ t = .long ∧ ∃ z, w = .long z) ∨ (i = .dreturn ∧ t = .double ∧ ∃ z, w = .double z) ∨ (i = .freturn ∧ t = .float ∧ ∃ z, w = .float z) ∨ (i = .areturn ∧ t.isReference = true ∧ w.isRef = true))
    (hd : decode c.code pc = .ok (i, 1)) {h : Heap} (hh : T.heap = h) (hq : Q (some w) h locs) (hC : cells ≤ C) (hN : slots ≤ N) : OGo p e below s Q C N (T.setTop (mkF m pc Ls (w :: rest))) := by
  obtain ⟨fs, hr, hrun, hended, hW, hsame⟩ := X.leave (v := some w) (fun h => by rw [hret] at h; cases h) hlk
  exact ⟨_, _, retOut X hx hret hn hi hd hr, hrun, hended, _, _, rfl, hh ▸ hq, ⟨_, rfl⟩, hW, hsame.mono hC hN⟩
theorem oretI {Q : Option Value → Heap → List Loc → Prop} {C N : Nat} (X : Stand p l e R s m args below meth c T locs cells slots) (hx : p.tables.exec = Jvm.exec) (hlk : meth.locks = false) {pc : Nat} {Ls : Array Slot} {z : Int32} {rest : List Value} (hret : meth.sig.returnType = some .int)
    (hd : decode c.code pc = .ok (.ireturn, 1)) {h : Heap} (hh : T.heap = h) (hq : Q (some (.int z)) h locs) (hC : cells ≤ C) (hN : slots ≤ N) : OGo p e below s Q C N (T.setTop (mkF m pc Ls (.int z :: rest))) :=
  oretW X hx hlk hret rfl (Or.inl ⟨rfl, Or.inl rfl, _, rfl⟩) hd hh hq hC hN
theorem oretJ {Q : Option Value → Heap → List Loc → Prop} {C N : Nat} (X : Stand p l e R s m args below meth c T locs cells slots) (hx : p.tables.exec = Jvm.exec) (hlk : meth.locks = false) {pc : Nat} {Ls : Array Slot} {z : Int64} {rest : List Value} (hret : meth.sig.returnType = some .long)
    (hd : decode c.code pc = .ok (.lreturn, 1)) {h : Heap} (hh : T.heap = h) (hq : Q (some (.long z)) h locs) (hC : cells ≤ C) (hN : slots ≤ N) : OGo p e below s Q C N (T.setTop (mkF m pc Ls (.long z :: rest))) :=
  oretW X hx hlk hret rfl (Or.inr (Or.inl ⟨rfl, rfl, _, rfl⟩)) hd hh hq hC hN
theorem onarR {t : FieldType} {w : Value} (ht : t.isReference = true) (hw : w.isRef = true) : narrow t w = w := by
  cases t <;> first | (cases ht; done) | (cases w <;> first | rfl | (cases hw; done))
theorem ofitR {t : FieldType} {w : Value} (ht : t.isReference = true) (hw : w.isRef = true) : fits t w = true := by
  cases t <;> first | (cases ht; done) | (cases w <;> first | rfl | (cases hw; done))
theorem oretA {Q : Option Value → Heap → List Loc → Prop} {C N : Nat} (X : Stand p l e R s m args below meth c T locs cells slots) (hx : p.tables.exec = Jvm.exec) (hlk : meth.locks = false) {pc : Nat} {Ls : Array Slot} {w : Value} {t : FieldType} {rest : List Value} (hret : meth.sig.returnType = some t) (ht : t.isReference = true) (hw : w.isRef = true)
    (hd : decode c.code pc = .ok (.areturn, 1)) {h : Heap} (hh : T.heap = h) (hq : Q (some w) h locs) (hC : cells ≤ C) (hN : slots ≤ N) : OGo p e below s Q C N (T.setTop (mkF m pc Ls (w :: rest))) :=
  oretW X hx hlk hret (onarR ht hw) (Or.inr (Or.inr (Or.inr (Or.inr ⟨rfl, ht, hw⟩)))) hd hh hq hC hN
theorem oretN {Q : Option Value → Heap → List Loc → Prop} {C N : Nat} (X : Stand p l e R s m args below meth c T locs cells slots) (hx : p.tables.exec = Jvm.exec) (hlk : meth.locks = false) {pc : Nat} {Ls : Array Slot} {z z' : Int32} {t : FieldType} {rest : List Value} (hret : meth.sig.returnType = some t) (ht : t = .boolean ∨ t = .byte ∨ t = .char ∨ t = .short)
    (hd : decode c.code pc = .ok (.ireturn, 1)) (hz : nar t z = z') {h : Heap} (hh : T.heap = h) (hq : Q (some (.int z')) h locs) (hC : cells ≤ C) (hN : slots ≤ N) : OGo p e below s Q C N (T.setTop (mkF m pc Ls (.int z :: rest))) := by
  subst hz
  obtain ⟨fs, hr, hrun, hended, hW, hsame⟩ := X.leave (v := some (.int (nar t z))) (fun h => by rw [hret] at h; cases h) hlk
  exact ⟨_, _, retN X hx hret ht hd hr, hrun, hended, _, _, rfl, hh ▸ hq, ⟨_, rfl⟩, hW, hsame.mono hC hN⟩
theorem oret0 {Q : Option Value → Heap → List Loc → Prop} {C N : Nat} (X : Stand p l e R s m args below meth c T locs cells slots) (hx : p.tables.exec = Jvm.exec) (hlk : meth.locks = false) {pc : Nat} {Ls : Array Slot} (hret : meth.sig.returnType = none)
    (hd : decode c.code pc = .ok (.return_, 1)) {h : Heap} (hh : T.heap = h) (hq : Q none h locs) (hC : cells ≤ C) (hN : slots ≤ N) : OGo p e below s Q C N (T.setTop (mkF m pc Ls [])) := by
  obtain ⟨fs, hr, hrun, hended, hW, hsame⟩ := X.leave (v := none) (fun _ => rfl) hlk
  exact ⟨_, _, X.returnOut hx hret hd hr, hrun, hended, _, _, rfl, hh ▸ hq, ⟨_, rfl⟩, hW, hsame.mono hC hN⟩
theorem olrem {tb : Tables} [Ours tb] {target : State} {g : JFrame} (h : At T m c below) (hx : tb.exec = Jvm.exec) (hg : g.method = m) {x y : Int64} {rest : List Value} (hd : decode c.code g.pc = .ok (.lrem, 1)) (hs : g.stack = .long y :: .long x :: rest) (hy : y ≠ 0)
    (hr : Steps tb e below (T.setTop { g with pc := g.pc + 1, stack := .long (x % y) :: rest }) target) : Steps tb e below (T.setTop g) target :=
  XS.lrem h hx hg hd hs hy (by rw [lrem_mod]; exact hr)
theorem olc_lt (x y : Int64) : lcmpW x y < 0 ↔ x < y := by rw [lcW]; exact lc_lt x y
theorem olc_gt (x y : Int64) : 0 < lcmpW x y ↔ y < x := by rw [lcW]; exact lc_gt x y
theorem olc_eq (x y : Int64) : lcmpW x y = 0 ↔ x = y := by rw [lcW]; exact lc_eq x y
theorem onilP {v : Int} : ∀ q ∈ ([] : List (Int × Int)), q.1 ≠ v := fun _ q => nomatch q
theorem oconsP {v a b : Int} {l : List (Int × Int)} (h : a ≠ v) (t : ∀ q ∈ l, q.1 ≠ v) : ∀ q ∈ (a, b) :: l, q.1 ≠ v := fun q hq => (List.mem_cons.mp hq).elim (fun u => by rw [u]; exact h) (t q)
theorem oint_ne {z k : Int32} {K : Int} (h : ¬ z = k) (hk : k.toInt = K) : K ≠ z.toInt := fun q => h (Int32.toInt_inj.mp (by rw [hk, q]))
theorem ofld_eq {Z : State} {t : Term} {C n d : String} {a : Addr} {k : Int32} (h : (Cond.eq (Term.field t C n d) (Term.int k)).value args Z none Z [] = some true) (ev : t.eval args Z none [] Z = some (.ref a)) : Fld Z Z.heap a C n d (.int k) := by
  apply Fld.start
  have q := fld_at (args := args) (first := Z) (o := none) (idx := []) (s := Z) (C := C) (n := n) (dd := d) ev
  simp only [Cond.value, q, Term.int_eval] at h
  cases hv : Z.fieldOf? a C n d with
  | none => simp [hv] at h
  | some v => cases v <;> simp [hv] at h <;> simp [h]
section Imp
variable {E a b : Int32}
theorem oLL (h : E < a) (k : a.toInt ≤ b.toInt) : E < b := by rw [Int32.lt_iff_toInt_lt] at *; omega
theorem oLnG (h : E < a) (k : a.toInt ≤ b.toInt + 1) : ¬ b < E := by rw [Int32.lt_iff_toInt_lt] at *; omega
theorem oLnE (h : E < a) (k : a.toInt ≤ b.toInt) : ¬ E = b := fun q => by subst q; rw [Int32.lt_iff_toInt_lt] at h; omega
theorem oGG (h : a < E) (k : b.toInt ≤ a.toInt) : b < E := by rw [Int32.lt_iff_toInt_lt] at *; omega
theorem oGnL (h : a < E) (k : b.toInt ≤ a.toInt + 1) : ¬ E < b := by rw [Int32.lt_iff_toInt_lt] at *; omega
theorem oGnE (h : a < E) (k : b.toInt ≤ a.toInt) : ¬ E = b := fun q => by subst q; rw [Int32.lt_iff_toInt_lt] at h; omega
theorem onLnL (h : ¬ E < a) (k : b.toInt ≤ a.toInt) : ¬ E < b := by rw [Int32.lt_iff_toInt_lt] at *; omega
theorem onLG (h : ¬ E < a) (k : b.toInt < a.toInt) : b < E := by rw [Int32.lt_iff_toInt_lt] at *; omega
theorem onLnE (h : ¬ E < a) (k : b.toInt < a.toInt) : ¬ E = b := fun q => by subst q; rw [Int32.lt_iff_toInt_lt] at h; omega
theorem onGnG (h : ¬ a < E) (k : a.toInt ≤ b.toInt) : ¬ b < E := by rw [Int32.lt_iff_toInt_lt] at *; omega
theorem onGL (h : ¬ a < E) (k : a.toInt < b.toInt) : E < b := by rw [Int32.lt_iff_toInt_lt] at *; omega
theorem onGnE (h : ¬ a < E) (k : a.toInt < b.toInt) : ¬ E = b := fun q => by subst q; rw [Int32.lt_iff_toInt_lt] at h; omega
end Imp
end Own
end Jvm.RoadKit
namespace Jvm.Pilot.@@N@@
open Jvm Jvm.ClassFile Sem Op Lib Jvm.Free Jvm.Stand Jvm.LawKit Jvm.RoadKit Bundle Jvm.Pilot.@@N@@.Jvm.D

theorem d1_0 : decode prog_9_method_2_code 0 = .ok (.bipush 8, 2) := by decide +kernel
theorem d1_2 : decode prog_9_method_2_code 2 = .ok (.newarray .byte, 2) := by decide +kernel
theorem d1_4 : decode prog_9_method_2_code 4 = .ok (.astore_n 2, 1) := by decide +kernel
theorem d1_5 : decode prog_9_method_2_code 5 = .ok (.iconst 0, 1) := by decide +kernel
theorem d1_6 : decode prog_9_method_2_code 6 = .ok (.istore_n 3, 1) := by decide +kernel
theorem d1_7 : decode prog_9_method_2_code 7 = .ok (.iload_n 3, 1) := by decide +kernel
theorem d1_8 : decode prog_9_method_2_code 8 = .ok (.aload_n 2, 1) := by decide +kernel
theorem d1_9 : decode prog_9_method_2_code 9 = .ok (.arraylength, 1) := by decide +kernel
theorem d1_10 : decode prog_9_method_2_code 10 = .ok (.if_icmp .ge 20, 3) := by decide +kernel
theorem d1_13 : decode prog_9_method_2_code 13 = .ok (.aload_n 2, 1) := by decide +kernel
theorem d1_14 : decode prog_9_method_2_code 14 = .ok (.iload_n 3, 1) := by decide +kernel
theorem d1_15 : decode prog_9_method_2_code 15 = .ok (.lload_n 0, 1) := by decide +kernel
theorem d1_16 : decode prog_9_method_2_code 16 = .ok (.iload_n 3, 1) := by decide +kernel
theorem d1_17 : decode prog_9_method_2_code 17 = .ok (.bipush 8, 2) := by decide +kernel
theorem d1_19 : decode prog_9_method_2_code 19 = .ok (.imul, 1) := by decide +kernel
theorem d1_20 : decode prog_9_method_2_code 20 = .ok (.lushr, 1) := by decide +kernel
theorem d1_21 : decode prog_9_method_2_code 21 = .ok (.l2i, 1) := by decide +kernel
theorem d1_22 : decode prog_9_method_2_code 22 = .ok (.i2b, 1) := by decide +kernel
theorem d1_23 : decode prog_9_method_2_code 23 = .ok (.bastore, 1) := by decide +kernel
theorem d1_24 : decode prog_9_method_2_code 24 = .ok (.iinc 3 1, 3) := by decide +kernel
theorem d1_27 : decode prog_9_method_2_code 27 = .ok (.goto (-20), 3) := by decide +kernel
theorem d1_30 : decode prog_9_method_2_code 30 = .ok (.aload_n 2, 1) := by decide +kernel
theorem d1_31 : decode prog_9_method_2_code 31 = .ok (.areturn, 1) := by decide +kernel
theorem pn_1 : plainName "com/example/hazy_set/hazyset/Elements" = true := by first | (simp [plainName, overriddenIn]; done) | decide +kernel
theorem ef_1 (m : MethodId) (q0 : Int64) : entryFrame m #[(.long q0)] 4 = mkF m 0 #[.val (.long q0), .second, .unset, .unset] [] := by first | (simp [entryFrame, mkF, argsToLocals, Value.category]; done) | rfl
def f1e0 (q0 : Int64) : Int32 := (nar .byte ((((q0.toUInt64 >>> ((0 : Int32) &&& 0x3f).toInt64.toUInt64).toInt64).toInt32).toInt8.toInt32))
def f1e1 (q0 : Int64) : Int32 := (nar .byte ((((q0.toUInt64 >>> ((8 : Int32) &&& 0x3f).toInt64.toUInt64).toInt64).toInt32).toInt8.toInt32))
def f1e2 (q0 : Int64) : Int32 := (nar .byte ((((q0.toUInt64 >>> ((16 : Int32) &&& 0x3f).toInt64.toUInt64).toInt64).toInt32).toInt8.toInt32))
def f1e3 (q0 : Int64) : Int32 := (nar .byte ((((q0.toUInt64 >>> ((24 : Int32) &&& 0x3f).toInt64.toUInt64).toInt64).toInt32).toInt8.toInt32))
def f1e4 (q0 : Int64) : Int32 := (nar .byte ((((q0.toUInt64 >>> ((32 : Int32) &&& 0x3f).toInt64.toUInt64).toInt64).toInt32).toInt8.toInt32))
def f1e5 (q0 : Int64) : Int32 := (nar .byte ((((q0.toUInt64 >>> ((40 : Int32) &&& 0x3f).toInt64.toUInt64).toInt64).toInt32).toInt8.toInt32))
def f1e6 (q0 : Int64) : Int32 := (nar .byte ((((q0.toUInt64 >>> ((48 : Int32) &&& 0x3f).toInt64.toUInt64).toInt64).toInt32).toInt8.toInt32))
def f1e7 (q0 : Int64) : Int32 := (nar .byte ((((q0.toUInt64 >>> ((56 : Int32) &&& 0x3f).toInt64.toUInt64).toInt64).toInt32).toInt8.toInt32))
def Q1 (Z : State) (q0 : Int64) (h0 : Heap) (n0 : Nat) (v : Option Value) (h : Heap) (L : List Loc) : Prop := ∃ (b : Addr) (k : ClassId), v = some (.ref b) ∧ Fr n0 L ∧ Keep h0 h [] ∧ h0.size ≤ b ∧ n0 ≤ b ∧ Arv Z h b k .byte (8 : Int32) [(.int (f1e0 q0)), (.int (f1e1 q0)), (.int (f1e2 q0)), (.int (f1e3 q0)), (.int (f1e4 q0)), (.int (f1e5 q0)), (.int (f1e6 q0)), (.int (f1e7 q0))] (.int (0 : Int32))
set_option maxRecDepth 65536 in
set_option maxHeartbeats 40000000 in
theorem rm1 (l : Launch) (Z : State) (a0 : Array Value) (hw : ∀ d ∈ tables_1, d.before a0 Z = true) (ws : List Jvm.Cond) (q0 : Int64) (h0 : Heap) (n0 : Nat) (Z0 : n0 ≤ h0.size) :
    MetFree l (⟨"com/example/hazy_set/hazyset/Elements", "ofWholeNumber", "(J)[B"⟩ : MethodName) (head1 (Jvm.Cond.code (⟨"com/example/hazy_set/hazyset/Elements", "ofWholeNumber", "(J)[B"⟩ : MethodName) prog_9_method_2_code 4 (some (.array .byte)) :: ws) ({ frames := 0, cells := 1, slots := 8, locals := 0 } : Room)) (fun a U => a = #[(.long q0)] ∧ Z.Warmed39 U.vm ∧ U.heap = h0) (fun _ _ _ _ _ => True) (fun _ U o U' => ∃ v L, o = .returned v ∧ Q1 Z q0 h0 n0 v U'.heap L ∧ FrameEnd U o U' L ({ frames := 0, cells := 1, slots := 8, locals := 0 } : Room).cells ({ frames := 0, cells := 1, slots := 8, locals := 0 } : Room).slots) := by
  refine MetFree.of_bodySF (plainFor_of_name pn_1) hisR ?_
  intro p e s m args below meth c s₁ Bd hml0 hP hK
  obtain ⟨rfl, hZ, hh⟩ := hP
  have hx := Bd.exec
  have hby := Bd.bytes
  have hml : c.maxLocals = 4 := hml0
  have hown : s.vm.findClass "com/example/hazy_set/hazyset/Elements" = some m.cls := findClass_of_methodNamed Bd.named
  have hnm := (name_of_methodNamed Bd.named Bd.method).1
  have X0 : Stand p l e ({ frames := 0, cells := 1, slots := 8, locals := 0 } : Room) s m #[(.long q0)] below meth c s₁ [] 0 0 := Stand.of_body Bd
  have e0 : s₁.heap = h0 := by rw [← hh, Bd.state]; rfl
  have N0 := Fr.nil n0
  show OGo p e below s (Q1 Z q0 h0 n0) ({ frames := 0, cells := 1, slots := 8, locals := 0 } : Room).cells ({ frames := 0, cells := 1, slots := 8, locals := 0 } : Room).slots _
  refine OGo.st (fun _ k => castTop (ef_1 m q0) k) ?_
  show OGo p e below s _ _ _ (s₁.setTop (mkF m 0 #[.val (.long q0), .second, .unset, .unset] []))
  refine OGo.st (fun _ k => XS.bipush X0.here hx rfl (hb hby d1_0) k) ?_
  show OGo p e below s _ _ _ (s₁.setTop (mkF m 2 #[.val (.long q0), .second, .unset, .unset] [(.int (8 : Int32))]))
  obtain ⟨T1, h1, k1, X1, e1, E1, A1, st1⟩ := newP X0 hx hZ (hw _ (List.mem_of_getElem? (i := 4) rfl)) e0 (g := (mkF m 2 #[.val (.long q0), .second, .unset, .unset] [(.int (8 : Int32))])) rfl (hb hby d1_2) rfl (by decide) (cap := 8) (by decide) (by decide) (by decide) (by decide)
  obtain ⟨b1, g1⟩ : ∃ z, z = h0.size := ⟨_, rfl⟩
  rw [← g1] at A1 st1
  refine OGo.st st1 ?_
  have g_b1 : n0 ≤ b1 := Nat.le_trans Z0 (Nat.le_of_eq g1.symm)
  have sz_b1 : h0.size ≤ b1 := Nat.le_trans (Keep.refl h0 []).1 (Nat.le_of_eq g1.symm)
  have K1 : Keep h0 h1 [] := (Keep.refl h0 _).ext E1
  have Z1 : n0 ≤ h1.size := Nat.le_trans Z0 E1.1
  have V_b1 : Arv Z h1 b1 k1 .byte (8 : Int32) [(.int (0 : Int32)), (.int (0 : Int32)), (.int (0 : Int32)), (.int (0 : Int32)), (.int (0 : Int32)), (.int (0 : Int32)), (.int (0 : Int32)), (.int (0 : Int32))] (.int (0 : Int32)) := (Arv.new A1 (by decide)).pad (pad_rep [] (.int (0 : Int32)) 8)
  show OGo p e below s _ _ _ (T1.setTop (mkF m 4 #[.val (.long q0), .second, .unset, .unset] [(.ref b1)]))
  refine OGo.st (fun _ k => XS.astoreN X1.here hx rfl (hb hby d1_4) rfl rfl (l' := #[.val (.long q0), .second, .val (.ref b1), .unset]) rfl k) ?_
  show OGo p e below s _ _ _ (T1.setTop (mkF m 5 #[.val (.long q0), .second, .val (.ref b1), .unset] []))
  refine OGo.st (fun _ k => XS.iconst X1.here hx rfl (hb hby d1_5) k) ?_
  show OGo p e below s _ _ _ (T1.setTop (mkF m 6 #[.val (.long q0), .second, .val (.ref b1), .unset] [(.int (0 : Int32))]))
  refine OGo.st (fun _ k => XS.istoreN X1.here hx rfl (hb hby d1_6) rfl (l' := #[.val (.long q0), .second, .val (.ref b1), .val (.int (0 : Int32))]) rfl k) ?_
  show OGo p e below s _ _ _ (T1.setTop (mkF m 7 #[.val (.long q0), .second, .val (.ref b1), .val (.int (0 : Int32))] []))
  refine OGo.st (fun _ k => XS.iloadN X1.here hx rfl (hb hby d1_7) rfl k) ?_
  show OGo p e below s _ _ _ (T1.setTop (mkF m 8 #[.val (.long q0), .second, .val (.ref b1), .val (.int (0 : Int32))] [(.int (0 : Int32))]))
  refine OGo.st (fun _ k => XS.aloadN X1.here hx rfl (hb hby d1_8) rfl rfl k) ?_
  show OGo p e below s _ _ _ (T1.setTop (mkF m 9 #[.val (.long q0), .second, .val (.ref b1), .val (.int (0 : Int32))] [(.ref b1), (.int (0 : Int32))]))
  obtain ⟨cl2, Ar2, -, Sz2, Nn2, -, -⟩ := id V_b1
  refine OGo.st (fun _ k => X1.arraylength hx (by rw [e1]; exact Ar2.1) (State.isArrayOf_alike hZ.alike Ar2.2.1) (g := (mkF m 9 #[.val (.long q0), .second, .val (.ref b1), .val (.int (0 : Int32))] [(.ref b1), (.int (0 : Int32))])) rfl rfl (hb hby d1_9) _ k) ?_
  rw [len_of Sz2 Nn2]
  show OGo p e below s _ _ _ (T1.setTop (mkF m 10 #[.val (.long q0), .second, .val (.ref b1), .val (.int (0 : Int32))] [(.int (8 : Int32)), (.int (0 : Int32))]))
  refine OGo.st (fun _ k => XS.icmpNo X1.here hx rfl (hb hby d1_10) rfl (tlt (by decide : (0 : Int32) < (8 : Int32))).2.1 k) ?_
  show OGo p e below s _ _ _ (T1.setTop (mkF m 13 #[.val (.long q0), .second, .val (.ref b1), .val (.int (0 : Int32))] []))
  refine OGo.st (fun _ k => XS.aloadN X1.here hx rfl (hb hby d1_13) rfl rfl k) ?_
  show OGo p e below s _ _ _ (T1.setTop (mkF m 14 #[.val (.long q0), .second, .val (.ref b1), .val (.int (0 : Int32))] [(.ref b1)]))
  refine OGo.st (fun _ k => XS.iloadN X1.here hx rfl (hb hby d1_14) rfl k) ?_
  show OGo p e below s _ _ _ (T1.setTop (mkF m 15 #[.val (.long q0), .second, .val (.ref b1), .val (.int (0 : Int32))] [(.int (0 : Int32)), (.ref b1)]))
  refine OGo.st (fun _ k => XS.lloadN X1.here hx rfl (hb hby d1_15) rfl k) ?_
  show OGo p e below s _ _ _ (T1.setTop (mkF m 16 #[.val (.long q0), .second, .val (.ref b1), .val (.int (0 : Int32))] [(.long q0), (.int (0 : Int32)), (.ref b1)]))
  refine OGo.st (fun _ k => XS.iloadN X1.here hx rfl (hb hby d1_16) rfl k) ?_
  show OGo p e below s _ _ _ (T1.setTop (mkF m 17 #[.val (.long q0), .second, .val (.ref b1), .val (.int (0 : Int32))] [(.int (0 : Int32)), (.long q0), (.int (0 : Int32)), (.ref b1)]))
  refine OGo.st (fun _ k => XS.bipush X1.here hx rfl (hb hby d1_17) k) ?_
  show OGo p e below s _ _ _ (T1.setTop (mkF m 19 #[.val (.long q0), .second, .val (.ref b1), .val (.int (0 : Int32))] [(.int (8 : Int32)), (.int (0 : Int32)), (.long q0), (.int (0 : Int32)), (.ref b1)]))
  refine OGo.st (fun _ k => XS.imul X1.here hx rfl (hb hby d1_19) rfl k) ?_
  rw [show ((0 : Int32) * (8 : Int32)) = (0 : Int32) from by decide]
  show OGo p e below s _ _ _ (T1.setTop (mkF m 20 #[.val (.long q0), .second, .val (.ref b1), .val (.int (0 : Int32))] [(.int (0 : Int32)), (.long q0), (.int (0 : Int32)), (.ref b1)]))
  refine OGo.st (fun _ k => XS.lushr X1.here hx rfl (hb hby d1_20) rfl k) ?_
  show OGo p e below s _ _ _ (T1.setTop (mkF m 21 #[.val (.long q0), .second, .val (.ref b1), .val (.int (0 : Int32))] [(.long ((q0.toUInt64 >>> ((0 : Int32) &&& 0x3f).toInt64.toUInt64).toInt64)), (.int (0 : Int32)), (.ref b1)]))
  refine OGo.st (fun _ k => XS.l2i X1.here hx rfl (hb hby d1_21) rfl k) ?_
  show OGo p e below s _ _ _ (T1.setTop (mkF m 22 #[.val (.long q0), .second, .val (.ref b1), .val (.int (0 : Int32))] [(.int (((q0.toUInt64 >>> ((0 : Int32) &&& 0x3f).toInt64.toUInt64).toInt64).toInt32)), (.int (0 : Int32)), (.ref b1)]))
  refine OGo.st (fun _ k => XS.i2b X1.here hx rfl (hb hby d1_22) rfl k) ?_
  show OGo p e below s _ _ _ (T1.setTop (mkF m 23 #[.val (.long q0), .second, .val (.ref b1), .val (.int (0 : Int32))] [(.int ((((q0.toUInt64 >>> ((0 : Int32) &&& 0x3f).toInt64.toUInt64).toInt64).toInt32).toInt8.toInt32)), (.int (0 : Int32)), (.ref b1)]))
  obtain ⟨cl3, Ar3, q3, Sz3, Nn3, Hs3, Gs3⟩ := id V_b1
  have hin3 : ¬ ((0 : Int32) < 0 ∨ cl3.slots.size ≤ ((0 : Int32)).toNatClampNeg) := inb_of Sz3 ⟨by decide, by decide⟩
  obtain ⟨T3, h3, X3, e3, W3, st3⟩ := stB X1 hx hZ e1 Ar3 (j := (0 : Int32)) hin3 (g := (mkF m 23 #[.val (.long q0), .second, .val (.ref b1), .val (.int (0 : Int32))] [(.int ((((q0.toUInt64 >>> ((0 : Int32) &&& 0x3f).toInt64.toUInt64).toInt64).toInt32).toInt8.toInt32)), (.int (0 : Int32)), (.ref b1)])) rfl rfl (hb hby d1_23)
  refine OGo.st st3 ?_
  have K3 : Keep h0 h3 [] := (K1).wr W3 (Or.inr sz_b1)
  have N3 := Fr.snoc X3 N0 g_b1
  have Z3 : n0 ≤ h3.size := Nat.le_trans Z1 (Keep.of_wr W3).1
  have V3 : Arv Z h3 b1 k1 .byte (8 : Int32) [(.int (nar .byte ((((q0.toUInt64 >>> ((0 : Int32) &&& 0x3f).toInt64.toUInt64).toInt64).toInt32).toInt8.toInt32))), (.int (0 : Int32)), (.int (0 : Int32)), (.int (0 : Int32)), (.int (0 : Int32)), (.int (0 : Int32)), (.int (0 : Int32)), (.int (0 : Int32))] (.int (0 : Int32)) := Arv.set Ar3 q3 Sz3 Nn3 Hs3 Gs3 (fits_nar_byte _) W3 0 rfl (Nat.le_of_ble_eq_true rfl)
  show OGo p e below s _ _ _ (T3.setTop (mkF m 24 #[.val (.long q0), .second, .val (.ref b1), .val (.int (0 : Int32))] []))
  refine OGo.st (fun _ k => XS.iinc X3.here hx rfl (hb hby d1_24) rfl (l' := #[.val (.long q0), .second, .val (.ref b1), .val (.int (1 : Int32))]) rfl k) ?_
  show OGo p e below s _ _ _ (T3.setTop (mkF m 27 #[.val (.long q0), .second, .val (.ref b1), .val (.int (1 : Int32))] []))
  refine OGo.st (fun _ k => XS.goto X3.here hx rfl (pc0 := 27) (pc' := 7) rfl (hb hby d1_27) (by decide) (by decide) k) ?_
  show OGo p e below s _ _ _ (T3.setTop (mkF m 7 #[.val (.long q0), .second, .val (.ref b1), .val (.int (1 : Int32))] []))
  refine OGo.st (fun _ k => XS.iloadN X3.here hx rfl (hb hby d1_7) rfl k) ?_
  show OGo p e below s _ _ _ (T3.setTop (mkF m 8 #[.val (.long q0), .second, .val (.ref b1), .val (.int (1 : Int32))] [(.int (1 : Int32))]))
  refine OGo.st (fun _ k => XS.aloadN X3.here hx rfl (hb hby d1_8) rfl rfl k) ?_
  show OGo p e below s _ _ _ (T3.setTop (mkF m 9 #[.val (.long q0), .second, .val (.ref b1), .val (.int (1 : Int32))] [(.ref b1), (.int (1 : Int32))]))
  obtain ⟨cl4, Ar4, -, Sz4, Nn4, -, -⟩ := id V3
  refine OGo.st (fun _ k => X3.arraylength hx (by rw [e3]; exact Ar4.1) (State.isArrayOf_alike hZ.alike Ar4.2.1) (g := (mkF m 9 #[.val (.long q0), .second, .val (.ref b1), .val (.int (1 : Int32))] [(.ref b1), (.int (1 : Int32))])) rfl rfl (hb hby d1_9) _ k) ?_
  rw [len_of Sz4 Nn4]
  show OGo p e below s _ _ _ (T3.setTop (mkF m 10 #[.val (.long q0), .second, .val (.ref b1), .val (.int (1 : Int32))] [(.int (8 : Int32)), (.int (1 : Int32))]))
  refine OGo.st (fun _ k => XS.icmpNo X3.here hx rfl (hb hby d1_10) rfl (tlt (by decide : (1 : Int32) < (8 : Int32))).2.1 k) ?_
  show OGo p e below s _ _ _ (T3.setTop (mkF m 13 #[.val (.long q0), .second, .val (.ref b1), .val (.int (1 : Int32))] []))
  refine OGo.st (fun _ k => XS.aloadN X3.here hx rfl (hb hby d1_13) rfl rfl k) ?_
  show OGo p e below s _ _ _ (T3.setTop (mkF m 14 #[.val (.long q0), .second, .val (.ref b1), .val (.int (1 : Int32))] [(.ref b1)]))
  refine OGo.st (fun _ k => XS.iloadN X3.here hx rfl (hb hby d1_14) rfl k) ?_
  show OGo p e below s _ _ _ (T3.setTop (mkF m 15 #[.val (.long q0), .second, .val (.ref b1), .val (.int (1 : Int32))] [(.int (1 : Int32)), (.ref b1)]))
  refine OGo.st (fun _ k => XS.lloadN X3.here hx rfl (hb hby d1_15) rfl k) ?_
  show OGo p e below s _ _ _ (T3.setTop (mkF m 16 #[.val (.long q0), .second, .val (.ref b1), .val (.int (1 : Int32))] [(.long q0), (.int (1 : Int32)), (.ref b1)]))
  refine OGo.st (fun _ k => XS.iloadN X3.here hx rfl (hb hby d1_16) rfl k) ?_
  show OGo p e below s _ _ _ (T3.setTop (mkF m 17 #[.val (.long q0), .second, .val (.ref b1), .val (.int (1 : Int32))] [(.int (1 : Int32)), (.long q0), (.int (1 : Int32)), (.ref b1)]))
  refine OGo.st (fun _ k => XS.bipush X3.here hx rfl (hb hby d1_17) k) ?_
  show OGo p e below s _ _ _ (T3.setTop (mkF m 19 #[.val (.long q0), .second, .val (.ref b1), .val (.int (1 : Int32))] [(.int (8 : Int32)), (.int (1 : Int32)), (.long q0), (.int (1 : Int32)), (.ref b1)]))
  refine OGo.st (fun _ k => XS.imul X3.here hx rfl (hb hby d1_19) rfl k) ?_
  rw [show ((1 : Int32) * (8 : Int32)) = (8 : Int32) from by decide]
  show OGo p e below s _ _ _ (T3.setTop (mkF m 20 #[.val (.long q0), .second, .val (.ref b1), .val (.int (1 : Int32))] [(.int (8 : Int32)), (.long q0), (.int (1 : Int32)), (.ref b1)]))
  refine OGo.st (fun _ k => XS.lushr X3.here hx rfl (hb hby d1_20) rfl k) ?_
  show OGo p e below s _ _ _ (T3.setTop (mkF m 21 #[.val (.long q0), .second, .val (.ref b1), .val (.int (1 : Int32))] [(.long ((q0.toUInt64 >>> ((8 : Int32) &&& 0x3f).toInt64.toUInt64).toInt64)), (.int (1 : Int32)), (.ref b1)]))
  refine OGo.st (fun _ k => XS.l2i X3.here hx rfl (hb hby d1_21) rfl k) ?_
  show OGo p e below s _ _ _ (T3.setTop (mkF m 22 #[.val (.long q0), .second, .val (.ref b1), .val (.int (1 : Int32))] [(.int (((q0.toUInt64 >>> ((8 : Int32) &&& 0x3f).toInt64.toUInt64).toInt64).toInt32)), (.int (1 : Int32)), (.ref b1)]))
  refine OGo.st (fun _ k => XS.i2b X3.here hx rfl (hb hby d1_22) rfl k) ?_
  show OGo p e below s _ _ _ (T3.setTop (mkF m 23 #[.val (.long q0), .second, .val (.ref b1), .val (.int (1 : Int32))] [(.int ((((q0.toUInt64 >>> ((8 : Int32) &&& 0x3f).toInt64.toUInt64).toInt64).toInt32).toInt8.toInt32)), (.int (1 : Int32)), (.ref b1)]))
  obtain ⟨cl5, Ar5, q5, Sz5, Nn5, Hs5, Gs5⟩ := id V3
  have hin5 : ¬ ((1 : Int32) < 0 ∨ cl5.slots.size ≤ ((1 : Int32)).toNatClampNeg) := inb_of Sz5 ⟨by decide, by decide⟩
  obtain ⟨T5, h5, X5, e5, W5, st5⟩ := stB X3 hx hZ e3 Ar5 (j := (1 : Int32)) hin5 (g := (mkF m 23 #[.val (.long q0), .second, .val (.ref b1), .val (.int (1 : Int32))] [(.int ((((q0.toUInt64 >>> ((8 : Int32) &&& 0x3f).toInt64.toUInt64).toInt64).toInt32).toInt8.toInt32)), (.int (1 : Int32)), (.ref b1)])) rfl rfl (hb hby d1_23)
  refine OGo.st st5 ?_
  have K5 : Keep h0 h5 [] := (K3).wr W5 (Or.inr sz_b1)
  have N5 := Fr.snoc X5 N3 g_b1
  have Z5 : n0 ≤ h5.size := Nat.le_trans Z3 (Keep.of_wr W5).1
  have V5 : Arv Z h5 b1 k1 .byte (8 : Int32) [(.int (nar .byte ((((q0.toUInt64 >>> ((0 : Int32) &&& 0x3f).toInt64.toUInt64).toInt64).toInt32).toInt8.toInt32))), (.int (nar .byte ((((q0.toUInt64 >>> ((8 : Int32) &&& 0x3f).toInt64.toUInt64).toInt64).toInt32).toInt8.toInt32))), (.int (0 : Int32)), (.int (0 : Int32)), (.int (0 : Int32)), (.int (0 : Int32)), (.int (0 : Int32)), (.int (0 : Int32))] (.int (0 : Int32)) := Arv.set Ar5 q5 Sz5 Nn5 Hs5 Gs5 (fits_nar_byte _) W5 1 rfl (Nat.le_of_ble_eq_true rfl)
  show OGo p e below s _ _ _ (T5.setTop (mkF m 24 #[.val (.long q0), .second, .val (.ref b1), .val (.int (1 : Int32))] []))
  refine OGo.st (fun _ k => XS.iinc X5.here hx rfl (hb hby d1_24) rfl (l' := #[.val (.long q0), .second, .val (.ref b1), .val (.int (2 : Int32))]) rfl k) ?_
  show OGo p e below s _ _ _ (T5.setTop (mkF m 27 #[.val (.long q0), .second, .val (.ref b1), .val (.int (2 : Int32))] []))
  refine OGo.st (fun _ k => XS.goto X5.here hx rfl (pc0 := 27) (pc' := 7) rfl (hb hby d1_27) (by decide) (by decide) k) ?_
  show OGo p e below s _ _ _ (T5.setTop (mkF m 7 #[.val (.long q0), .second, .val (.ref b1), .val (.int (2 : Int32))] []))
  refine OGo.st (fun _ k => XS.iloadN X5.here hx rfl (hb hby d1_7) rfl k) ?_
  show OGo p e below s _ _ _ (T5.setTop (mkF m 8 #[.val (.long q0), .second, .val (.ref b1), .val (.int (2 : Int32))] [(.int (2 : Int32))]))
  refine OGo.st (fun _ k => XS.aloadN X5.here hx rfl (hb hby d1_8) rfl rfl k) ?_
  show OGo p e below s _ _ _ (T5.setTop (mkF m 9 #[.val (.long q0), .second, .val (.ref b1), .val (.int (2 : Int32))] [(.ref b1), (.int (2 : Int32))]))
  obtain ⟨cl6, Ar6, -, Sz6, Nn6, -, -⟩ := id V5
  refine OGo.st (fun _ k => X5.arraylength hx (by rw [e5]; exact Ar6.1) (State.isArrayOf_alike hZ.alike Ar6.2.1) (g := (mkF m 9 #[.val (.long q0), .second, .val (.ref b1), .val (.int (2 : Int32))] [(.ref b1), (.int (2 : Int32))])) rfl rfl (hb hby d1_9) _ k) ?_
  rw [len_of Sz6 Nn6]
  show OGo p e below s _ _ _ (T5.setTop (mkF m 10 #[.val (.long q0), .second, .val (.ref b1), .val (.int (2 : Int32))] [(.int (8 : Int32)), (.int (2 : Int32))]))
  refine OGo.st (fun _ k => XS.icmpNo X5.here hx rfl (hb hby d1_10) rfl (tlt (by decide : (2 : Int32) < (8 : Int32))).2.1 k) ?_
  show OGo p e below s _ _ _ (T5.setTop (mkF m 13 #[.val (.long q0), .second, .val (.ref b1), .val (.int (2 : Int32))] []))
  refine OGo.st (fun _ k => XS.aloadN X5.here hx rfl (hb hby d1_13) rfl rfl k) ?_
  show OGo p e below s _ _ _ (T5.setTop (mkF m 14 #[.val (.long q0), .second, .val (.ref b1), .val (.int (2 : Int32))] [(.ref b1)]))
  refine OGo.st (fun _ k => XS.iloadN X5.here hx rfl (hb hby d1_14) rfl k) ?_
  show OGo p e below s _ _ _ (T5.setTop (mkF m 15 #[.val (.long q0), .second, .val (.ref b1), .val (.int (2 : Int32))] [(.int (2 : Int32)), (.ref b1)]))
  refine OGo.st (fun _ k => XS.lloadN X5.here hx rfl (hb hby d1_15) rfl k) ?_
  show OGo p e below s _ _ _ (T5.setTop (mkF m 16 #[.val (.long q0), .second, .val (.ref b1), .val (.int (2 : Int32))] [(.long q0), (.int (2 : Int32)), (.ref b1)]))
  refine OGo.st (fun _ k => XS.iloadN X5.here hx rfl (hb hby d1_16) rfl k) ?_
  show OGo p e below s _ _ _ (T5.setTop (mkF m 17 #[.val (.long q0), .second, .val (.ref b1), .val (.int (2 : Int32))] [(.int (2 : Int32)), (.long q0), (.int (2 : Int32)), (.ref b1)]))
  refine OGo.st (fun _ k => XS.bipush X5.here hx rfl (hb hby d1_17) k) ?_
  show OGo p e below s _ _ _ (T5.setTop (mkF m 19 #[.val (.long q0), .second, .val (.ref b1), .val (.int (2 : Int32))] [(.int (8 : Int32)), (.int (2 : Int32)), (.long q0), (.int (2 : Int32)), (.ref b1)]))
  refine OGo.st (fun _ k => XS.imul X5.here hx rfl (hb hby d1_19) rfl k) ?_
  rw [show ((2 : Int32) * (8 : Int32)) = (16 : Int32) from by decide]
  show OGo p e below s _ _ _ (T5.setTop (mkF m 20 #[.val (.long q0), .second, .val (.ref b1), .val (.int (2 : Int32))] [(.int (16 : Int32)), (.long q0), (.int (2 : Int32)), (.ref b1)]))
  refine OGo.st (fun _ k => XS.lushr X5.here hx rfl (hb hby d1_20) rfl k) ?_
  show OGo p e below s _ _ _ (T5.setTop (mkF m 21 #[.val (.long q0), .second, .val (.ref b1), .val (.int (2 : Int32))] [(.long ((q0.toUInt64 >>> ((16 : Int32) &&& 0x3f).toInt64.toUInt64).toInt64)), (.int (2 : Int32)), (.ref b1)]))
  refine OGo.st (fun _ k => XS.l2i X5.here hx rfl (hb hby d1_21) rfl k) ?_
  show OGo p e below s _ _ _ (T5.setTop (mkF m 22 #[.val (.long q0), .second, .val (.ref b1), .val (.int (2 : Int32))] [(.int (((q0.toUInt64 >>> ((16 : Int32) &&& 0x3f).toInt64.toUInt64).toInt64).toInt32)), (.int (2 : Int32)), (.ref b1)]))
  refine OGo.st (fun _ k => XS.i2b X5.here hx rfl (hb hby d1_22) rfl k) ?_
  show OGo p e below s _ _ _ (T5.setTop (mkF m 23 #[.val (.long q0), .second, .val (.ref b1), .val (.int (2 : Int32))] [(.int ((((q0.toUInt64 >>> ((16 : Int32) &&& 0x3f).toInt64.toUInt64).toInt64).toInt32).toInt8.toInt32)), (.int (2 : Int32)), (.ref b1)]))
  obtain ⟨cl7, Ar7, q7, Sz7, Nn7, Hs7, Gs7⟩ := id V5
  have hin7 : ¬ ((2 : Int32) < 0 ∨ cl7.slots.size ≤ ((2 : Int32)).toNatClampNeg) := inb_of Sz7 ⟨by decide, by decide⟩
  obtain ⟨T7, h7, X7, e7, W7, st7⟩ := stB X5 hx hZ e5 Ar7 (j := (2 : Int32)) hin7 (g := (mkF m 23 #[.val (.long q0), .second, .val (.ref b1), .val (.int (2 : Int32))] [(.int ((((q0.toUInt64 >>> ((16 : Int32) &&& 0x3f).toInt64.toUInt64).toInt64).toInt32).toInt8.toInt32)), (.int (2 : Int32)), (.ref b1)])) rfl rfl (hb hby d1_23)
  refine OGo.st st7 ?_
  have K7 : Keep h0 h7 [] := (K5).wr W7 (Or.inr sz_b1)
  have N7 := Fr.snoc X7 N5 g_b1
  have Z7 : n0 ≤ h7.size := Nat.le_trans Z5 (Keep.of_wr W7).1
  have V7 : Arv Z h7 b1 k1 .byte (8 : Int32) [(.int (nar .byte ((((q0.toUInt64 >>> ((0 : Int32) &&& 0x3f).toInt64.toUInt64).toInt64).toInt32).toInt8.toInt32))), (.int (nar .byte ((((q0.toUInt64 >>> ((8 : Int32) &&& 0x3f).toInt64.toUInt64).toInt64).toInt32).toInt8.toInt32))), (.int (nar .byte ((((q0.toUInt64 >>> ((16 : Int32) &&& 0x3f).toInt64.toUInt64).toInt64).toInt32).toInt8.toInt32))), (.int (0 : Int32)), (.int (0 : Int32)), (.int (0 : Int32)), (.int (0 : Int32)), (.int (0 : Int32))] (.int (0 : Int32)) := Arv.set Ar7 q7 Sz7 Nn7 Hs7 Gs7 (fits_nar_byte _) W7 2 rfl (Nat.le_of_ble_eq_true rfl)
  show OGo p e below s _ _ _ (T7.setTop (mkF m 24 #[.val (.long q0), .second, .val (.ref b1), .val (.int (2 : Int32))] []))
  refine OGo.st (fun _ k => XS.iinc X7.here hx rfl (hb hby d1_24) rfl (l' := #[.val (.long q0), .second, .val (.ref b1), .val (.int (3 : Int32))]) rfl k) ?_
  show OGo p e below s _ _ _ (T7.setTop (mkF m 27 #[.val (.long q0), .second, .val (.ref b1), .val (.int (3 : Int32))] []))
  refine OGo.st (fun _ k => XS.goto X7.here hx rfl (pc0 := 27) (pc' := 7) rfl (hb hby d1_27) (by decide) (by decide) k) ?_
  show OGo p e below s _ _ _ (T7.setTop (mkF m 7 #[.val (.long q0), .second, .val (.ref b1), .val (.int (3 : Int32))] []))
  refine OGo.st (fun _ k => XS.iloadN X7.here hx rfl (hb hby d1_7) rfl k) ?_
  show OGo p e below s _ _ _ (T7.setTop (mkF m 8 #[.val (.long q0), .second, .val (.ref b1), .val (.int (3 : Int32))] [(.int (3 : Int32))]))
  refine OGo.st (fun _ k => XS.aloadN X7.here hx rfl (hb hby d1_8) rfl rfl k) ?_
  show OGo p e below s _ _ _ (T7.setTop (mkF m 9 #[.val (.long q0), .second, .val (.ref b1), .val (.int (3 : Int32))] [(.ref b1), (.int (3 : Int32))]))
  obtain ⟨cl8, Ar8, -, Sz8, Nn8, -, -⟩ := id V7
  refine OGo.st (fun _ k => X7.arraylength hx (by rw [e7]; exact Ar8.1) (State.isArrayOf_alike hZ.alike Ar8.2.1) (g := (mkF m 9 #[.val (.long q0), .second, .val (.ref b1), .val (.int (3 : Int32))] [(.ref b1), (.int (3 : Int32))])) rfl rfl (hb hby d1_9) _ k) ?_
  rw [len_of Sz8 Nn8]
  show OGo p e below s _ _ _ (T7.setTop (mkF m 10 #[.val (.long q0), .second, .val (.ref b1), .val (.int (3 : Int32))] [(.int (8 : Int32)), (.int (3 : Int32))]))
  refine OGo.st (fun _ k => XS.icmpNo X7.here hx rfl (hb hby d1_10) rfl (tlt (by decide : (3 : Int32) < (8 : Int32))).2.1 k) ?_
  show OGo p e below s _ _ _ (T7.setTop (mkF m 13 #[.val (.long q0), .second, .val (.ref b1), .val (.int (3 : Int32))] []))
  refine OGo.st (fun _ k => XS.aloadN X7.here hx rfl (hb hby d1_13) rfl rfl k) ?_
  show OGo p e below s _ _ _ (T7.setTop (mkF m 14 #[.val (.long q0), .second, .val (.ref b1), .val (.int (3 : Int32))] [(.ref b1)]))
  refine OGo.st (fun _ k => XS.iloadN X7.here hx rfl (hb hby d1_14) rfl k) ?_
  show OGo p e below s _ _ _ (T7.setTop (mkF m 15 #[.val (.long q0), .second, .val (.ref b1), .val (.int (3 : Int32))] [(.int (3 : Int32)), (.ref b1)]))
  refine OGo.st (fun _ k => XS.lloadN X7.here hx rfl (hb hby d1_15) rfl k) ?_
  show OGo p e below s _ _ _ (T7.setTop (mkF m 16 #[.val (.long q0), .second, .val (.ref b1), .val (.int (3 : Int32))] [(.long q0), (.int (3 : Int32)), (.ref b1)]))
  refine OGo.st (fun _ k => XS.iloadN X7.here hx rfl (hb hby d1_16) rfl k) ?_
  show OGo p e below s _ _ _ (T7.setTop (mkF m 17 #[.val (.long q0), .second, .val (.ref b1), .val (.int (3 : Int32))] [(.int (3 : Int32)), (.long q0), (.int (3 : Int32)), (.ref b1)]))
  refine OGo.st (fun _ k => XS.bipush X7.here hx rfl (hb hby d1_17) k) ?_
  show OGo p e below s _ _ _ (T7.setTop (mkF m 19 #[.val (.long q0), .second, .val (.ref b1), .val (.int (3 : Int32))] [(.int (8 : Int32)), (.int (3 : Int32)), (.long q0), (.int (3 : Int32)), (.ref b1)]))
  refine OGo.st (fun _ k => XS.imul X7.here hx rfl (hb hby d1_19) rfl k) ?_
  rw [show ((3 : Int32) * (8 : Int32)) = (24 : Int32) from by decide]
  show OGo p e below s _ _ _ (T7.setTop (mkF m 20 #[.val (.long q0), .second, .val (.ref b1), .val (.int (3 : Int32))] [(.int (24 : Int32)), (.long q0), (.int (3 : Int32)), (.ref b1)]))
  refine OGo.st (fun _ k => XS.lushr X7.here hx rfl (hb hby d1_20) rfl k) ?_
  show OGo p e below s _ _ _ (T7.setTop (mkF m 21 #[.val (.long q0), .second, .val (.ref b1), .val (.int (3 : Int32))] [(.long ((q0.toUInt64 >>> ((24 : Int32) &&& 0x3f).toInt64.toUInt64).toInt64)), (.int (3 : Int32)), (.ref b1)]))
  refine OGo.st (fun _ k => XS.l2i X7.here hx rfl (hb hby d1_21) rfl k) ?_
  show OGo p e below s _ _ _ (T7.setTop (mkF m 22 #[.val (.long q0), .second, .val (.ref b1), .val (.int (3 : Int32))] [(.int (((q0.toUInt64 >>> ((24 : Int32) &&& 0x3f).toInt64.toUInt64).toInt64).toInt32)), (.int (3 : Int32)), (.ref b1)]))
  refine OGo.st (fun _ k => XS.i2b X7.here hx rfl (hb hby d1_22) rfl k) ?_
  show OGo p e below s _ _ _ (T7.setTop (mkF m 23 #[.val (.long q0), .second, .val (.ref b1), .val (.int (3 : Int32))] [(.int ((((q0.toUInt64 >>> ((24 : Int32) &&& 0x3f).toInt64.toUInt64).toInt64).toInt32).toInt8.toInt32)), (.int (3 : Int32)), (.ref b1)]))
  obtain ⟨cl9, Ar9, q9, Sz9, Nn9, Hs9, Gs9⟩ := id V7
  have hin9 : ¬ ((3 : Int32) < 0 ∨ cl9.slots.size ≤ ((3 : Int32)).toNatClampNeg) := inb_of Sz9 ⟨by decide, by decide⟩
  obtain ⟨T9, h9, X9, e9, W9, st9⟩ := stB X7 hx hZ e7 Ar9 (j := (3 : Int32)) hin9 (g := (mkF m 23 #[.val (.long q0), .second, .val (.ref b1), .val (.int (3 : Int32))] [(.int ((((q0.toUInt64 >>> ((24 : Int32) &&& 0x3f).toInt64.toUInt64).toInt64).toInt32).toInt8.toInt32)), (.int (3 : Int32)), (.ref b1)])) rfl rfl (hb hby d1_23)
  refine OGo.st st9 ?_
  have K9 : Keep h0 h9 [] := (K7).wr W9 (Or.inr sz_b1)
  have N9 := Fr.snoc X9 N7 g_b1
  have Z9 : n0 ≤ h9.size := Nat.le_trans Z7 (Keep.of_wr W9).1
  have V9 : Arv Z h9 b1 k1 .byte (8 : Int32) [(.int (nar .byte ((((q0.toUInt64 >>> ((0 : Int32) &&& 0x3f).toInt64.toUInt64).toInt64).toInt32).toInt8.toInt32))), (.int (nar .byte ((((q0.toUInt64 >>> ((8 : Int32) &&& 0x3f).toInt64.toUInt64).toInt64).toInt32).toInt8.toInt32))), (.int (nar .byte ((((q0.toUInt64 >>> ((16 : Int32) &&& 0x3f).toInt64.toUInt64).toInt64).toInt32).toInt8.toInt32))), (.int (nar .byte ((((q0.toUInt64 >>> ((24 : Int32) &&& 0x3f).toInt64.toUInt64).toInt64).toInt32).toInt8.toInt32))), (.int (0 : Int32)), (.int (0 : Int32)), (.int (0 : Int32)), (.int (0 : Int32))] (.int (0 : Int32)) := Arv.set Ar9 q9 Sz9 Nn9 Hs9 Gs9 (fits_nar_byte _) W9 3 rfl (Nat.le_of_ble_eq_true rfl)
  show OGo p e below s _ _ _ (T9.setTop (mkF m 24 #[.val (.long q0), .second, .val (.ref b1), .val (.int (3 : Int32))] []))
  refine OGo.st (fun _ k => XS.iinc X9.here hx rfl (hb hby d1_24) rfl (l' := #[.val (.long q0), .second, .val (.ref b1), .val (.int (4 : Int32))]) rfl k) ?_
  show OGo p e below s _ _ _ (T9.setTop (mkF m 27 #[.val (.long q0), .second, .val (.ref b1), .val (.int (4 : Int32))] []))
  refine OGo.st (fun _ k => XS.goto X9.here hx rfl (pc0 := 27) (pc' := 7) rfl (hb hby d1_27) (by decide) (by decide) k) ?_
  show OGo p e below s _ _ _ (T9.setTop (mkF m 7 #[.val (.long q0), .second, .val (.ref b1), .val (.int (4 : Int32))] []))
  refine OGo.st (fun _ k => XS.iloadN X9.here hx rfl (hb hby d1_7) rfl k) ?_
  show OGo p e below s _ _ _ (T9.setTop (mkF m 8 #[.val (.long q0), .second, .val (.ref b1), .val (.int (4 : Int32))] [(.int (4 : Int32))]))
  refine OGo.st (fun _ k => XS.aloadN X9.here hx rfl (hb hby d1_8) rfl rfl k) ?_
  show OGo p e below s _ _ _ (T9.setTop (mkF m 9 #[.val (.long q0), .second, .val (.ref b1), .val (.int (4 : Int32))] [(.ref b1), (.int (4 : Int32))]))
  obtain ⟨cl10, Ar10, -, Sz10, Nn10, -, -⟩ := id V9
  refine OGo.st (fun _ k => X9.arraylength hx (by rw [e9]; exact Ar10.1) (State.isArrayOf_alike hZ.alike Ar10.2.1) (g := (mkF m 9 #[.val (.long q0), .second, .val (.ref b1), .val (.int (4 : Int32))] [(.ref b1), (.int (4 : Int32))])) rfl rfl (hb hby d1_9) _ k) ?_
  rw [len_of Sz10 Nn10]
  show OGo p e below s _ _ _ (T9.setTop (mkF m 10 #[.val (.long q0), .second, .val (.ref b1), .val (.int (4 : Int32))] [(.int (8 : Int32)), (.int (4 : Int32))]))
  refine OGo.st (fun _ k => XS.icmpNo X9.here hx rfl (hb hby d1_10) rfl (tlt (by decide : (4 : Int32) < (8 : Int32))).2.1 k) ?_
  show OGo p e below s _ _ _ (T9.setTop (mkF m 13 #[.val (.long q0), .second, .val (.ref b1), .val (.int (4 : Int32))] []))
  refine OGo.st (fun _ k => XS.aloadN X9.here hx rfl (hb hby d1_13) rfl rfl k) ?_
  show OGo p e below s _ _ _ (T9.setTop (mkF m 14 #[.val (.long q0), .second, .val (.ref b1), .val (.int (4 : Int32))] [(.ref b1)]))
  refine OGo.st (fun _ k => XS.iloadN X9.here hx rfl (hb hby d1_14) rfl k) ?_
  show OGo p e below s _ _ _ (T9.setTop (mkF m 15 #[.val (.long q0), .second, .val (.ref b1), .val (.int (4 : Int32))] [(.int (4 : Int32)), (.ref b1)]))
  refine OGo.st (fun _ k => XS.lloadN X9.here hx rfl (hb hby d1_15) rfl k) ?_
  show OGo p e below s _ _ _ (T9.setTop (mkF m 16 #[.val (.long q0), .second, .val (.ref b1), .val (.int (4 : Int32))] [(.long q0), (.int (4 : Int32)), (.ref b1)]))
  refine OGo.st (fun _ k => XS.iloadN X9.here hx rfl (hb hby d1_16) rfl k) ?_
  show OGo p e below s _ _ _ (T9.setTop (mkF m 17 #[.val (.long q0), .second, .val (.ref b1), .val (.int (4 : Int32))] [(.int (4 : Int32)), (.long q0), (.int (4 : Int32)), (.ref b1)]))
  refine OGo.st (fun _ k => XS.bipush X9.here hx rfl (hb hby d1_17) k) ?_
  show OGo p e below s _ _ _ (T9.setTop (mkF m 19 #[.val (.long q0), .second, .val (.ref b1), .val (.int (4 : Int32))] [(.int (8 : Int32)), (.int (4 : Int32)), (.long q0), (.int (4 : Int32)), (.ref b1)]))
  refine OGo.st (fun _ k => XS.imul X9.here hx rfl (hb hby d1_19) rfl k) ?_
  rw [show ((4 : Int32) * (8 : Int32)) = (32 : Int32) from by decide]
  show OGo p e below s _ _ _ (T9.setTop (mkF m 20 #[.val (.long q0), .second, .val (.ref b1), .val (.int (4 : Int32))] [(.int (32 : Int32)), (.long q0), (.int (4 : Int32)), (.ref b1)]))
  refine OGo.st (fun _ k => XS.lushr X9.here hx rfl (hb hby d1_20) rfl k) ?_
  show OGo p e below s _ _ _ (T9.setTop (mkF m 21 #[.val (.long q0), .second, .val (.ref b1), .val (.int (4 : Int32))] [(.long ((q0.toUInt64 >>> ((32 : Int32) &&& 0x3f).toInt64.toUInt64).toInt64)), (.int (4 : Int32)), (.ref b1)]))
  refine OGo.st (fun _ k => XS.l2i X9.here hx rfl (hb hby d1_21) rfl k) ?_
  show OGo p e below s _ _ _ (T9.setTop (mkF m 22 #[.val (.long q0), .second, .val (.ref b1), .val (.int (4 : Int32))] [(.int (((q0.toUInt64 >>> ((32 : Int32) &&& 0x3f).toInt64.toUInt64).toInt64).toInt32)), (.int (4 : Int32)), (.ref b1)]))
  refine OGo.st (fun _ k => XS.i2b X9.here hx rfl (hb hby d1_22) rfl k) ?_
  show OGo p e below s _ _ _ (T9.setTop (mkF m 23 #[.val (.long q0), .second, .val (.ref b1), .val (.int (4 : Int32))] [(.int ((((q0.toUInt64 >>> ((32 : Int32) &&& 0x3f).toInt64.toUInt64).toInt64).toInt32).toInt8.toInt32)), (.int (4 : Int32)), (.ref b1)]))
  obtain ⟨cl11, Ar11, q11, Sz11, Nn11, Hs11, Gs11⟩ := id V9
  have hin11 : ¬ ((4 : Int32) < 0 ∨ cl11.slots.size ≤ ((4 : Int32)).toNatClampNeg) := inb_of Sz11 ⟨by decide, by decide⟩
  obtain ⟨T11, h11, X11, e11, W11, st11⟩ := stB X9 hx hZ e9 Ar11 (j := (4 : Int32)) hin11 (g := (mkF m 23 #[.val (.long q0), .second, .val (.ref b1), .val (.int (4 : Int32))] [(.int ((((q0.toUInt64 >>> ((32 : Int32) &&& 0x3f).toInt64.toUInt64).toInt64).toInt32).toInt8.toInt32)), (.int (4 : Int32)), (.ref b1)])) rfl rfl (hb hby d1_23)
  refine OGo.st st11 ?_
  have K11 : Keep h0 h11 [] := (K9).wr W11 (Or.inr sz_b1)
  have N11 := Fr.snoc X11 N9 g_b1
  have Z11 : n0 ≤ h11.size := Nat.le_trans Z9 (Keep.of_wr W11).1
  have V11 : Arv Z h11 b1 k1 .byte (8 : Int32) [(.int (nar .byte ((((q0.toUInt64 >>> ((0 : Int32) &&& 0x3f).toInt64.toUInt64).toInt64).toInt32).toInt8.toInt32))), (.int (nar .byte ((((q0.toUInt64 >>> ((8 : Int32) &&& 0x3f).toInt64.toUInt64).toInt64).toInt32).toInt8.toInt32))), (.int (nar .byte ((((q0.toUInt64 >>> ((16 : Int32) &&& 0x3f).toInt64.toUInt64).toInt64).toInt32).toInt8.toInt32))), (.int (nar .byte ((((q0.toUInt64 >>> ((24 : Int32) &&& 0x3f).toInt64.toUInt64).toInt64).toInt32).toInt8.toInt32))), (.int (nar .byte ((((q0.toUInt64 >>> ((32 : Int32) &&& 0x3f).toInt64.toUInt64).toInt64).toInt32).toInt8.toInt32))), (.int (0 : Int32)), (.int (0 : Int32)), (.int (0 : Int32))] (.int (0 : Int32)) := Arv.set Ar11 q11 Sz11 Nn11 Hs11 Gs11 (fits_nar_byte _) W11 4 rfl (Nat.le_of_ble_eq_true rfl)
  show OGo p e below s _ _ _ (T11.setTop (mkF m 24 #[.val (.long q0), .second, .val (.ref b1), .val (.int (4 : Int32))] []))
  refine OGo.st (fun _ k => XS.iinc X11.here hx rfl (hb hby d1_24) rfl (l' := #[.val (.long q0), .second, .val (.ref b1), .val (.int (5 : Int32))]) rfl k) ?_
  show OGo p e below s _ _ _ (T11.setTop (mkF m 27 #[.val (.long q0), .second, .val (.ref b1), .val (.int (5 : Int32))] []))
  refine OGo.st (fun _ k => XS.goto X11.here hx rfl (pc0 := 27) (pc' := 7) rfl (hb hby d1_27) (by decide) (by decide) k) ?_
  show OGo p e below s _ _ _ (T11.setTop (mkF m 7 #[.val (.long q0), .second, .val (.ref b1), .val (.int (5 : Int32))] []))
  refine OGo.st (fun _ k => XS.iloadN X11.here hx rfl (hb hby d1_7) rfl k) ?_
  show OGo p e below s _ _ _ (T11.setTop (mkF m 8 #[.val (.long q0), .second, .val (.ref b1), .val (.int (5 : Int32))] [(.int (5 : Int32))]))
  refine OGo.st (fun _ k => XS.aloadN X11.here hx rfl (hb hby d1_8) rfl rfl k) ?_
  show OGo p e below s _ _ _ (T11.setTop (mkF m 9 #[.val (.long q0), .second, .val (.ref b1), .val (.int (5 : Int32))] [(.ref b1), (.int (5 : Int32))]))
  obtain ⟨cl12, Ar12, -, Sz12, Nn12, -, -⟩ := id V11
  refine OGo.st (fun _ k => X11.arraylength hx (by rw [e11]; exact Ar12.1) (State.isArrayOf_alike hZ.alike Ar12.2.1) (g := (mkF m 9 #[.val (.long q0), .second, .val (.ref b1), .val (.int (5 : Int32))] [(.ref b1), (.int (5 : Int32))])) rfl rfl (hb hby d1_9) _ k) ?_
  rw [len_of Sz12 Nn12]
  show OGo p e below s _ _ _ (T11.setTop (mkF m 10 #[.val (.long q0), .second, .val (.ref b1), .val (.int (5 : Int32))] [(.int (8 : Int32)), (.int (5 : Int32))]))
  refine OGo.st (fun _ k => XS.icmpNo X11.here hx rfl (hb hby d1_10) rfl (tlt (by decide : (5 : Int32) < (8 : Int32))).2.1 k) ?_
  show OGo p e below s _ _ _ (T11.setTop (mkF m 13 #[.val (.long q0), .second, .val (.ref b1), .val (.int (5 : Int32))] []))
  refine OGo.st (fun _ k => XS.aloadN X11.here hx rfl (hb hby d1_13) rfl rfl k) ?_
  show OGo p e below s _ _ _ (T11.setTop (mkF m 14 #[.val (.long q0), .second, .val (.ref b1), .val (.int (5 : Int32))] [(.ref b1)]))
  refine OGo.st (fun _ k => XS.iloadN X11.here hx rfl (hb hby d1_14) rfl k) ?_
  show OGo p e below s _ _ _ (T11.setTop (mkF m 15 #[.val (.long q0), .second, .val (.ref b1), .val (.int (5 : Int32))] [(.int (5 : Int32)), (.ref b1)]))
  refine OGo.st (fun _ k => XS.lloadN X11.here hx rfl (hb hby d1_15) rfl k) ?_
  show OGo p e below s _ _ _ (T11.setTop (mkF m 16 #[.val (.long q0), .second, .val (.ref b1), .val (.int (5 : Int32))] [(.long q0), (.int (5 : Int32)), (.ref b1)]))
  refine OGo.st (fun _ k => XS.iloadN X11.here hx rfl (hb hby d1_16) rfl k) ?_
  show OGo p e below s _ _ _ (T11.setTop (mkF m 17 #[.val (.long q0), .second, .val (.ref b1), .val (.int (5 : Int32))] [(.int (5 : Int32)), (.long q0), (.int (5 : Int32)), (.ref b1)]))
  refine OGo.st (fun _ k => XS.bipush X11.here hx rfl (hb hby d1_17) k) ?_
  show OGo p e below s _ _ _ (T11.setTop (mkF m 19 #[.val (.long q0), .second, .val (.ref b1), .val (.int (5 : Int32))] [(.int (8 : Int32)), (.int (5 : Int32)), (.long q0), (.int (5 : Int32)), (.ref b1)]))
  refine OGo.st (fun _ k => XS.imul X11.here hx rfl (hb hby d1_19) rfl k) ?_
  rw [show ((5 : Int32) * (8 : Int32)) = (40 : Int32) from by decide]
  show OGo p e below s _ _ _ (T11.setTop (mkF m 20 #[.val (.long q0), .second, .val (.ref b1), .val (.int (5 : Int32))] [(.int (40 : Int32)), (.long q0), (.int (5 : Int32)), (.ref b1)]))
  refine OGo.st (fun _ k => XS.lushr X11.here hx rfl (hb hby d1_20) rfl k) ?_
  show OGo p e below s _ _ _ (T11.setTop (mkF m 21 #[.val (.long q0), .second, .val (.ref b1), .val (.int (5 : Int32))] [(.long ((q0.toUInt64 >>> ((40 : Int32) &&& 0x3f).toInt64.toUInt64).toInt64)), (.int (5 : Int32)), (.ref b1)]))
  refine OGo.st (fun _ k => XS.l2i X11.here hx rfl (hb hby d1_21) rfl k) ?_
  show OGo p e below s _ _ _ (T11.setTop (mkF m 22 #[.val (.long q0), .second, .val (.ref b1), .val (.int (5 : Int32))] [(.int (((q0.toUInt64 >>> ((40 : Int32) &&& 0x3f).toInt64.toUInt64).toInt64).toInt32)), (.int (5 : Int32)), (.ref b1)]))
  refine OGo.st (fun _ k => XS.i2b X11.here hx rfl (hb hby d1_22) rfl k) ?_
  show OGo p e below s _ _ _ (T11.setTop (mkF m 23 #[.val (.long q0), .second, .val (.ref b1), .val (.int (5 : Int32))] [(.int ((((q0.toUInt64 >>> ((40 : Int32) &&& 0x3f).toInt64.toUInt64).toInt64).toInt32).toInt8.toInt32)), (.int (5 : Int32)), (.ref b1)]))
  obtain ⟨cl13, Ar13, q13, Sz13, Nn13, Hs13, Gs13⟩ := id V11
  have hin13 : ¬ ((5 : Int32) < 0 ∨ cl13.slots.size ≤ ((5 : Int32)).toNatClampNeg) := inb_of Sz13 ⟨by decide, by decide⟩
  obtain ⟨T13, h13, X13, e13, W13, st13⟩ := stB X11 hx hZ e11 Ar13 (j := (5 : Int32)) hin13 (g := (mkF m 23 #[.val (.long q0), .second, .val (.ref b1), .val (.int (5 : Int32))] [(.int ((((q0.toUInt64 >>> ((40 : Int32) &&& 0x3f).toInt64.toUInt64).toInt64).toInt32).toInt8.toInt32)), (.int (5 : Int32)), (.ref b1)])) rfl rfl (hb hby d1_23)
  refine OGo.st st13 ?_
  have K13 : Keep h0 h13 [] := (K11).wr W13 (Or.inr sz_b1)
  have N13 := Fr.snoc X13 N11 g_b1
  have Z13 : n0 ≤ h13.size := Nat.le_trans Z11 (Keep.of_wr W13).1
  have V13 : Arv Z h13 b1 k1 .byte (8 : Int32) [(.int (nar .byte ((((q0.toUInt64 >>> ((0 : Int32) &&& 0x3f).toInt64.toUInt64).toInt64).toInt32).toInt8.toInt32))), (.int (nar .byte ((((q0.toUInt64 >>> ((8 : Int32) &&& 0x3f).toInt64.toUInt64).toInt64).toInt32).toInt8.toInt32))), (.int (nar .byte ((((q0.toUInt64 >>> ((16 : Int32) &&& 0x3f).toInt64.toUInt64).toInt64).toInt32).toInt8.toInt32))), (.int (nar .byte ((((q0.toUInt64 >>> ((24 : Int32) &&& 0x3f).toInt64.toUInt64).toInt64).toInt32).toInt8.toInt32))), (.int (nar .byte ((((q0.toUInt64 >>> ((32 : Int32) &&& 0x3f).toInt64.toUInt64).toInt64).toInt32).toInt8.toInt32))), (.int (nar .byte ((((q0.toUInt64 >>> ((40 : Int32) &&& 0x3f).toInt64.toUInt64).toInt64).toInt32).toInt8.toInt32))), (.int (0 : Int32)), (.int (0 : Int32))] (.int (0 : Int32)) := Arv.set Ar13 q13 Sz13 Nn13 Hs13 Gs13 (fits_nar_byte _) W13 5 rfl (Nat.le_of_ble_eq_true rfl)
  show OGo p e below s _ _ _ (T13.setTop (mkF m 24 #[.val (.long q0), .second, .val (.ref b1), .val (.int (5 : Int32))] []))
  refine OGo.st (fun _ k => XS.iinc X13.here hx rfl (hb hby d1_24) rfl (l' := #[.val (.long q0), .second, .val (.ref b1), .val (.int (6 : Int32))]) rfl k) ?_
  show OGo p e below s _ _ _ (T13.setTop (mkF m 27 #[.val (.long q0), .second, .val (.ref b1), .val (.int (6 : Int32))] []))
  refine OGo.st (fun _ k => XS.goto X13.here hx rfl (pc0 := 27) (pc' := 7) rfl (hb hby d1_27) (by decide) (by decide) k) ?_
  show OGo p e below s _ _ _ (T13.setTop (mkF m 7 #[.val (.long q0), .second, .val (.ref b1), .val (.int (6 : Int32))] []))
  refine OGo.st (fun _ k => XS.iloadN X13.here hx rfl (hb hby d1_7) rfl k) ?_
  show OGo p e below s _ _ _ (T13.setTop (mkF m 8 #[.val (.long q0), .second, .val (.ref b1), .val (.int (6 : Int32))] [(.int (6 : Int32))]))
  refine OGo.st (fun _ k => XS.aloadN X13.here hx rfl (hb hby d1_8) rfl rfl k) ?_
  show OGo p e below s _ _ _ (T13.setTop (mkF m 9 #[.val (.long q0), .second, .val (.ref b1), .val (.int (6 : Int32))] [(.ref b1), (.int (6 : Int32))]))
  obtain ⟨cl14, Ar14, -, Sz14, Nn14, -, -⟩ := id V13
  refine OGo.st (fun _ k => X13.arraylength hx (by rw [e13]; exact Ar14.1) (State.isArrayOf_alike hZ.alike Ar14.2.1) (g := (mkF m 9 #[.val (.long q0), .second, .val (.ref b1), .val (.int (6 : Int32))] [(.ref b1), (.int (6 : Int32))])) rfl rfl (hb hby d1_9) _ k) ?_
  rw [len_of Sz14 Nn14]
  show OGo p e below s _ _ _ (T13.setTop (mkF m 10 #[.val (.long q0), .second, .val (.ref b1), .val (.int (6 : Int32))] [(.int (8 : Int32)), (.int (6 : Int32))]))
  refine OGo.st (fun _ k => XS.icmpNo X13.here hx rfl (hb hby d1_10) rfl (tlt (by decide : (6 : Int32) < (8 : Int32))).2.1 k) ?_
  show OGo p e below s _ _ _ (T13.setTop (mkF m 13 #[.val (.long q0), .second, .val (.ref b1), .val (.int (6 : Int32))] []))
  refine OGo.st (fun _ k => XS.aloadN X13.here hx rfl (hb hby d1_13) rfl rfl k) ?_
  show OGo p e below s _ _ _ (T13.setTop (mkF m 14 #[.val (.long q0), .second, .val (.ref b1), .val (.int (6 : Int32))] [(.ref b1)]))
  refine OGo.st (fun _ k => XS.iloadN X13.here hx rfl (hb hby d1_14) rfl k) ?_
  show OGo p e below s _ _ _ (T13.setTop (mkF m 15 #[.val (.long q0), .second, .val (.ref b1), .val (.int (6 : Int32))] [(.int (6 : Int32)), (.ref b1)]))
  refine OGo.st (fun _ k => XS.lloadN X13.here hx rfl (hb hby d1_15) rfl k) ?_
  show OGo p e below s _ _ _ (T13.setTop (mkF m 16 #[.val (.long q0), .second, .val (.ref b1), .val (.int (6 : Int32))] [(.long q0), (.int (6 : Int32)), (.ref b1)]))
  refine OGo.st (fun _ k => XS.iloadN X13.here hx rfl (hb hby d1_16) rfl k) ?_
  show OGo p e below s _ _ _ (T13.setTop (mkF m 17 #[.val (.long q0), .second, .val (.ref b1), .val (.int (6 : Int32))] [(.int (6 : Int32)), (.long q0), (.int (6 : Int32)), (.ref b1)]))
  refine OGo.st (fun _ k => XS.bipush X13.here hx rfl (hb hby d1_17) k) ?_
  show OGo p e below s _ _ _ (T13.setTop (mkF m 19 #[.val (.long q0), .second, .val (.ref b1), .val (.int (6 : Int32))] [(.int (8 : Int32)), (.int (6 : Int32)), (.long q0), (.int (6 : Int32)), (.ref b1)]))
  refine OGo.st (fun _ k => XS.imul X13.here hx rfl (hb hby d1_19) rfl k) ?_
  rw [show ((6 : Int32) * (8 : Int32)) = (48 : Int32) from by decide]
  show OGo p e below s _ _ _ (T13.setTop (mkF m 20 #[.val (.long q0), .second, .val (.ref b1), .val (.int (6 : Int32))] [(.int (48 : Int32)), (.long q0), (.int (6 : Int32)), (.ref b1)]))
  refine OGo.st (fun _ k => XS.lushr X13.here hx rfl (hb hby d1_20) rfl k) ?_
  show OGo p e below s _ _ _ (T13.setTop (mkF m 21 #[.val (.long q0), .second, .val (.ref b1), .val (.int (6 : Int32))] [(.long ((q0.toUInt64 >>> ((48 : Int32) &&& 0x3f).toInt64.toUInt64).toInt64)), (.int (6 : Int32)), (.ref b1)]))
  refine OGo.st (fun _ k => XS.l2i X13.here hx rfl (hb hby d1_21) rfl k) ?_
  show OGo p e below s _ _ _ (T13.setTop (mkF m 22 #[.val (.long q0), .second, .val (.ref b1), .val (.int (6 : Int32))] [(.int (((q0.toUInt64 >>> ((48 : Int32) &&& 0x3f).toInt64.toUInt64).toInt64).toInt32)), (.int (6 : Int32)), (.ref b1)]))
  refine OGo.st (fun _ k => XS.i2b X13.here hx rfl (hb hby d1_22) rfl k) ?_
  show OGo p e below s _ _ _ (T13.setTop (mkF m 23 #[.val (.long q0), .second, .val (.ref b1), .val (.int (6 : Int32))] [(.int ((((q0.toUInt64 >>> ((48 : Int32) &&& 0x3f).toInt64.toUInt64).toInt64).toInt32).toInt8.toInt32)), (.int (6 : Int32)), (.ref b1)]))
  obtain ⟨cl15, Ar15, q15, Sz15, Nn15, Hs15, Gs15⟩ := id V13
  have hin15 : ¬ ((6 : Int32) < 0 ∨ cl15.slots.size ≤ ((6 : Int32)).toNatClampNeg) := inb_of Sz15 ⟨by decide, by decide⟩
  obtain ⟨T15, h15, X15, e15, W15, st15⟩ := stB X13 hx hZ e13 Ar15 (j := (6 : Int32)) hin15 (g := (mkF m 23 #[.val (.long q0), .second, .val (.ref b1), .val (.int (6 : Int32))] [(.int ((((q0.toUInt64 >>> ((48 : Int32) &&& 0x3f).toInt64.toUInt64).toInt64).toInt32).toInt8.toInt32)), (.int (6 : Int32)), (.ref b1)])) rfl rfl (hb hby d1_23)
  refine OGo.st st15 ?_
  have K15 : Keep h0 h15 [] := (K13).wr W15 (Or.inr sz_b1)
  have N15 := Fr.snoc X15 N13 g_b1
  have Z15 : n0 ≤ h15.size := Nat.le_trans Z13 (Keep.of_wr W15).1
  have V15 : Arv Z h15 b1 k1 .byte (8 : Int32) [(.int (nar .byte ((((q0.toUInt64 >>> ((0 : Int32) &&& 0x3f).toInt64.toUInt64).toInt64).toInt32).toInt8.toInt32))), (.int (nar .byte ((((q0.toUInt64 >>> ((8 : Int32) &&& 0x3f).toInt64.toUInt64).toInt64).toInt32).toInt8.toInt32))), (.int (nar .byte ((((q0.toUInt64 >>> ((16 : Int32) &&& 0x3f).toInt64.toUInt64).toInt64).toInt32).toInt8.toInt32))), (.int (nar .byte ((((q0.toUInt64 >>> ((24 : Int32) &&& 0x3f).toInt64.toUInt64).toInt64).toInt32).toInt8.toInt32))), (.int (nar .byte ((((q0.toUInt64 >>> ((32 : Int32) &&& 0x3f).toInt64.toUInt64).toInt64).toInt32).toInt8.toInt32))), (.int (nar .byte ((((q0.toUInt64 >>> ((40 : Int32) &&& 0x3f).toInt64.toUInt64).toInt64).toInt32).toInt8.toInt32))), (.int (nar .byte ((((q0.toUInt64 >>> ((48 : Int32) &&& 0x3f).toInt64.toUInt64).toInt64).toInt32).toInt8.toInt32))), (.int (0 : Int32))] (.int (0 : Int32)) := Arv.set Ar15 q15 Sz15 Nn15 Hs15 Gs15 (fits_nar_byte _) W15 6 rfl (Nat.le_of_ble_eq_true rfl)
  show OGo p e below s _ _ _ (T15.setTop (mkF m 24 #[.val (.long q0), .second, .val (.ref b1), .val (.int (6 : Int32))] []))
  refine OGo.st (fun _ k => XS.iinc X15.here hx rfl (hb hby d1_24) rfl (l' := #[.val (.long q0), .second, .val (.ref b1), .val (.int (7 : Int32))]) rfl k) ?_
  show OGo p e below s _ _ _ (T15.setTop (mkF m 27 #[.val (.long q0), .second, .val (.ref b1), .val (.int (7 : Int32))] []))
  refine OGo.st (fun _ k => XS.goto X15.here hx rfl (pc0 := 27) (pc' := 7) rfl (hb hby d1_27) (by decide) (by decide) k) ?_
  show OGo p e below s _ _ _ (T15.setTop (mkF m 7 #[.val (.long q0), .second, .val (.ref b1), .val (.int (7 : Int32))] []))
  refine OGo.st (fun _ k => XS.iloadN X15.here hx rfl (hb hby d1_7) rfl k) ?_
  show OGo p e below s _ _ _ (T15.setTop (mkF m 8 #[.val (.long q0), .second, .val (.ref b1), .val (.int (7 : Int32))] [(.int (7 : Int32))]))
  refine OGo.st (fun _ k => XS.aloadN X15.here hx rfl (hb hby d1_8) rfl rfl k) ?_
  show OGo p e below s _ _ _ (T15.setTop (mkF m 9 #[.val (.long q0), .second, .val (.ref b1), .val (.int (7 : Int32))] [(.ref b1), (.int (7 : Int32))]))
  obtain ⟨cl16, Ar16, -, Sz16, Nn16, -, -⟩ := id V15
  refine OGo.st (fun _ k => X15.arraylength hx (by rw [e15]; exact Ar16.1) (State.isArrayOf_alike hZ.alike Ar16.2.1) (g := (mkF m 9 #[.val (.long q0), .second, .val (.ref b1), .val (.int (7 : Int32))] [(.ref b1), (.int (7 : Int32))])) rfl rfl (hb hby d1_9) _ k) ?_
  rw [len_of Sz16 Nn16]
  show OGo p e below s _ _ _ (T15.setTop (mkF m 10 #[.val (.long q0), .second, .val (.ref b1), .val (.int (7 : Int32))] [(.int (8 : Int32)), (.int (7 : Int32))]))
  refine OGo.st (fun _ k => XS.icmpNo X15.here hx rfl (hb hby d1_10) rfl (tlt (by decide : (7 : Int32) < (8 : Int32))).2.1 k) ?_
  show OGo p e below s _ _ _ (T15.setTop (mkF m 13 #[.val (.long q0), .second, .val (.ref b1), .val (.int (7 : Int32))] []))
  refine OGo.st (fun _ k => XS.aloadN X15.here hx rfl (hb hby d1_13) rfl rfl k) ?_
  show OGo p e below s _ _ _ (T15.setTop (mkF m 14 #[.val (.long q0), .second, .val (.ref b1), .val (.int (7 : Int32))] [(.ref b1)]))
  refine OGo.st (fun _ k => XS.iloadN X15.here hx rfl (hb hby d1_14) rfl k) ?_
  show OGo p e below s _ _ _ (T15.setTop (mkF m 15 #[.val (.long q0), .second, .val (.ref b1), .val (.int (7 : Int32))] [(.int (7 : Int32)), (.ref b1)]))
  refine OGo.st (fun _ k => XS.lloadN X15.here hx rfl (hb hby d1_15) rfl k) ?_
  show OGo p e below s _ _ _ (T15.setTop (mkF m 16 #[.val (.long q0), .second, .val (.ref b1), .val (.int (7 : Int32))] [(.long q0), (.int (7 : Int32)), (.ref b1)]))
  refine OGo.st (fun _ k => XS.iloadN X15.here hx rfl (hb hby d1_16) rfl k) ?_
  show OGo p e below s _ _ _ (T15.setTop (mkF m 17 #[.val (.long q0), .second, .val (.ref b1), .val (.int (7 : Int32))] [(.int (7 : Int32)), (.long q0), (.int (7 : Int32)), (.ref b1)]))
  refine OGo.st (fun _ k => XS.bipush X15.here hx rfl (hb hby d1_17) k) ?_
  show OGo p e below s _ _ _ (T15.setTop (mkF m 19 #[.val (.long q0), .second, .val (.ref b1), .val (.int (7 : Int32))] [(.int (8 : Int32)), (.int (7 : Int32)), (.long q0), (.int (7 : Int32)), (.ref b1)]))
  refine OGo.st (fun _ k => XS.imul X15.here hx rfl (hb hby d1_19) rfl k) ?_
  rw [show ((7 : Int32) * (8 : Int32)) = (56 : Int32) from by decide]
  show OGo p e below s _ _ _ (T15.setTop (mkF m 20 #[.val (.long q0), .second, .val (.ref b1), .val (.int (7 : Int32))] [(.int (56 : Int32)), (.long q0), (.int (7 : Int32)), (.ref b1)]))
  refine OGo.st (fun _ k => XS.lushr X15.here hx rfl (hb hby d1_20) rfl k) ?_
  show OGo p e below s _ _ _ (T15.setTop (mkF m 21 #[.val (.long q0), .second, .val (.ref b1), .val (.int (7 : Int32))] [(.long ((q0.toUInt64 >>> ((56 : Int32) &&& 0x3f).toInt64.toUInt64).toInt64)), (.int (7 : Int32)), (.ref b1)]))
  refine OGo.st (fun _ k => XS.l2i X15.here hx rfl (hb hby d1_21) rfl k) ?_
  show OGo p e below s _ _ _ (T15.setTop (mkF m 22 #[.val (.long q0), .second, .val (.ref b1), .val (.int (7 : Int32))] [(.int (((q0.toUInt64 >>> ((56 : Int32) &&& 0x3f).toInt64.toUInt64).toInt64).toInt32)), (.int (7 : Int32)), (.ref b1)]))
  refine OGo.st (fun _ k => XS.i2b X15.here hx rfl (hb hby d1_22) rfl k) ?_
  show OGo p e below s _ _ _ (T15.setTop (mkF m 23 #[.val (.long q0), .second, .val (.ref b1), .val (.int (7 : Int32))] [(.int ((((q0.toUInt64 >>> ((56 : Int32) &&& 0x3f).toInt64.toUInt64).toInt64).toInt32).toInt8.toInt32)), (.int (7 : Int32)), (.ref b1)]))
  obtain ⟨cl17, Ar17, q17, Sz17, Nn17, Hs17, Gs17⟩ := id V15
  have hin17 : ¬ ((7 : Int32) < 0 ∨ cl17.slots.size ≤ ((7 : Int32)).toNatClampNeg) := inb_of Sz17 ⟨by decide, by decide⟩
  obtain ⟨T17, h17, X17, e17, W17, st17⟩ := stB X15 hx hZ e15 Ar17 (j := (7 : Int32)) hin17 (g := (mkF m 23 #[.val (.long q0), .second, .val (.ref b1), .val (.int (7 : Int32))] [(.int ((((q0.toUInt64 >>> ((56 : Int32) &&& 0x3f).toInt64.toUInt64).toInt64).toInt32).toInt8.toInt32)), (.int (7 : Int32)), (.ref b1)])) rfl rfl (hb hby d1_23)
  refine OGo.st st17 ?_
  have K17 : Keep h0 h17 [] := (K15).wr W17 (Or.inr sz_b1)
  have N17 := Fr.snoc X17 N15 g_b1
  have Z17 : n0 ≤ h17.size := Nat.le_trans Z15 (Keep.of_wr W17).1
  have V17 : Arv Z h17 b1 k1 .byte (8 : Int32) [(.int (nar .byte ((((q0.toUInt64 >>> ((0 : Int32) &&& 0x3f).toInt64.toUInt64).toInt64).toInt32).toInt8.toInt32))), (.int (nar .byte ((((q0.toUInt64 >>> ((8 : Int32) &&& 0x3f).toInt64.toUInt64).toInt64).toInt32).toInt8.toInt32))), (.int (nar .byte ((((q0.toUInt64 >>> ((16 : Int32) &&& 0x3f).toInt64.toUInt64).toInt64).toInt32).toInt8.toInt32))), (.int (nar .byte ((((q0.toUInt64 >>> ((24 : Int32) &&& 0x3f).toInt64.toUInt64).toInt64).toInt32).toInt8.toInt32))), (.int (nar .byte ((((q0.toUInt64 >>> ((32 : Int32) &&& 0x3f).toInt64.toUInt64).toInt64).toInt32).toInt8.toInt32))), (.int (nar .byte ((((q0.toUInt64 >>> ((40 : Int32) &&& 0x3f).toInt64.toUInt64).toInt64).toInt32).toInt8.toInt32))), (.int (nar .byte ((((q0.toUInt64 >>> ((48 : Int32) &&& 0x3f).toInt64.toUInt64).toInt64).toInt32).toInt8.toInt32))), (.int (nar .byte ((((q0.toUInt64 >>> ((56 : Int32) &&& 0x3f).toInt64.toUInt64).toInt64).toInt32).toInt8.toInt32)))] (.int (0 : Int32)) := Arv.set Ar17 q17 Sz17 Nn17 Hs17 Gs17 (fits_nar_byte _) W17 7 rfl (Nat.le_of_ble_eq_true rfl)
  show OGo p e below s _ _ _ (T17.setTop (mkF m 24 #[.val (.long q0), .second, .val (.ref b1), .val (.int (7 : Int32))] []))
  refine OGo.st (fun _ k => XS.iinc X17.here hx rfl (hb hby d1_24) rfl (l' := #[.val (.long q0), .second, .val (.ref b1), .val (.int (8 : Int32))]) rfl k) ?_
  show OGo p e below s _ _ _ (T17.setTop (mkF m 27 #[.val (.long q0), .second, .val (.ref b1), .val (.int (8 : Int32))] []))
  refine OGo.st (fun _ k => XS.goto X17.here hx rfl (pc0 := 27) (pc' := 7) rfl (hb hby d1_27) (by decide) (by decide) k) ?_
  show OGo p e below s _ _ _ (T17.setTop (mkF m 7 #[.val (.long q0), .second, .val (.ref b1), .val (.int (8 : Int32))] []))
  refine OGo.st (fun _ k => XS.iloadN X17.here hx rfl (hb hby d1_7) rfl k) ?_
  show OGo p e below s _ _ _ (T17.setTop (mkF m 8 #[.val (.long q0), .second, .val (.ref b1), .val (.int (8 : Int32))] [(.int (8 : Int32))]))
  refine OGo.st (fun _ k => XS.aloadN X17.here hx rfl (hb hby d1_8) rfl rfl k) ?_
  show OGo p e below s _ _ _ (T17.setTop (mkF m 9 #[.val (.long q0), .second, .val (.ref b1), .val (.int (8 : Int32))] [(.ref b1), (.int (8 : Int32))]))
  obtain ⟨cl18, Ar18, -, Sz18, Nn18, -, -⟩ := id V17
  refine OGo.st (fun _ k => X17.arraylength hx (by rw [e17]; exact Ar18.1) (State.isArrayOf_alike hZ.alike Ar18.2.1) (g := (mkF m 9 #[.val (.long q0), .second, .val (.ref b1), .val (.int (8 : Int32))] [(.ref b1), (.int (8 : Int32))])) rfl rfl (hb hby d1_9) _ k) ?_
  rw [len_of Sz18 Nn18]
  show OGo p e below s _ _ _ (T17.setTop (mkF m 10 #[.val (.long q0), .second, .val (.ref b1), .val (.int (8 : Int32))] [(.int (8 : Int32)), (.int (8 : Int32))]))
  refine OGo.st (fun _ k => XS.icmpYes X17.here hx rfl (pc0 := 10) (pc' := 30) rfl (hb hby d1_10) rfl (flt (by decide : ¬ ((8 : Int32) < (8 : Int32)))).2.1 (by decide) (by decide) k) ?_
  show OGo p e below s _ _ _ (T17.setTop (mkF m 30 #[.val (.long q0), .second, .val (.ref b1), .val (.int (8 : Int32))] []))
  refine OGo.st (fun _ k => XS.aloadN X17.here hx rfl (hb hby d1_30) rfl rfl k) ?_
  show OGo p e below s _ _ _ (T17.setTop (mkF m 31 #[.val (.long q0), .second, .val (.ref b1), .val (.int (8 : Int32))] [(.ref b1)]))
  exact oretA X17 hx Bd.notSynchronized Bd.returns rfl rfl (hb hby d1_31) e17 ⟨b1, k1, rfl, N17, K17, sz_b1, g_b1, V17⟩ (by decide) (by decide)
theorem pn_0 : plainName "com/example/hazy_set/hazyset/ElementsOfWholeNumberPinLaw" = true := by first | (simp [plainName, overriddenIn]; done) | decide +kernel
theorem pd_0_0 : parseMethodDescriptor "(J)[B" = some ⟨[.long], some (.array .byte)⟩ := by decide +kernel
theorem ef_0 (m : MethodId) (q0 : Int64) : entryFrame m #[(.long q0)] maxLocals = mkF m 0 #[.val (.long q0), .second, .unset, .unset, .unset] [] := by first | (simp [entryFrame, mkF, argsToLocals, Value.category, maxLocals]; done) | rfl
def v0_0 (q0 : Int64) : Int64 := ((((((((((f1e0 q0).toInt64) &&& (255 : Int64)) ||| ((((f1e1 q0).toInt64) &&& (255 : Int64)) <<< ((8 : Int32) &&& 0x3f).toInt64)) ||| ((((f1e2 q0).toInt64) &&& (255 : Int64)) <<< ((16 : Int32) &&& 0x3f).toInt64)) ||| ((((f1e3 q0).toInt64) &&& (255 : Int64)) <<< ((24 : Int32) &&& 0x3f).toInt64)) ||| ((((f1e4 q0).toInt64) &&& (255 : Int64)) <<< ((32 : Int32) &&& 0x3f).toInt64)) ||| ((((f1e5 q0).toInt64) &&& (255 : Int64)) <<< ((40 : Int32) &&& 0x3f).toInt64)) ||| ((((f1e6 q0).toInt64) &&& (255 : Int64)) <<< ((48 : Int32) &&& 0x3f).toInt64)) ||| ((((f1e7 q0).toInt64) &&& (255 : Int64)) <<< ((56 : Int32) &&& 0x3f).toInt64))
def f0 (q0 : Int64) : Int32 := (if (v0_0 q0) = q0 then (1 : Int32) else (0 : Int32))
def Q0 (Z : State) (q0 : Int64) (h0 : Heap) (n0 : Nat) (v : Option Value) (h : Heap) (L : List Loc) : Prop := v = some (.int (f0 q0)) ∧ Fr n0 L
set_option maxRecDepth 65536 in
set_option maxHeartbeats 40000000 in
theorem rm0 (l : Launch) (Z : State) (a0 : Array Value) (hw : ∀ d ∈ tables_1, d.before a0 Z = true) (ws : List Jvm.Cond) (q0 : Int64) (h0 : Heap) (n0 : Nat) (Z0 : n0 ≤ h0.size) :
    MetFree l x (head1 (Jvm.Cond.code x code maxLocals ret :: ws) room_1) (fun a U => a = #[(.long q0)] ∧ Z.Warmed39 U.vm ∧ U.heap = h0) (fun _ _ _ _ _ => True) (fun _ U o U' => ∃ v L, o = .returned v ∧ Q0 Z q0 h0 n0 v U'.heap L ∧ FrameEnd U o U' L room_1.cells room_1.slots) := by
  refine MetFree.of_bodySF (plainFor_of_name pn_0) hisR ?_
  intro p e s m args below meth c s₁ Bd hml0 hP hK
  obtain ⟨rfl, hZ, hh⟩ := hP
  have hx := Bd.exec
  have hby := Bd.bytes
  have hml : c.maxLocals = 5 := hml0
  have hown : s.vm.findClass "com/example/hazy_set/hazyset/ElementsOfWholeNumberPinLaw" = some m.cls := findClass_of_methodNamed Bd.named
  have hnm := (name_of_methodNamed Bd.named Bd.method).1
  have X0 : Stand p l e room_1 s m #[(.long q0)] below meth c s₁ [] 0 0 := Stand.of_body Bd
  have e0 : s₁.heap = h0 := by rw [← hh, Bd.state]; rfl
  have N0 := Fr.nil n0
  show OGo p e below s (Q0 Z q0 h0 n0) room_1.cells room_1.slots _
  refine OGo.st (fun _ k => castTop (ef_0 m q0) k) ?_
  show OGo p e below s _ _ _ (s₁.setTop (mkF m 0 #[.val (.long q0), .second, .unset, .unset, .unset] []))
  refine OGo.st (fun _ k => XS.lloadN X0.here hx rfl (hb hby at_0) rfl k) ?_
  show OGo p e below s _ _ _ (s₁.setTop (mkF m 1 #[.val (.long q0), .second, .unset, .unset, .unset] [(.long q0)]))
  obtain ⟨_, _, ⟨T1, L1, k1, n1⟩, -, X1, ⟨Lc1, hQ1, l1, y1, z1⟩, st1⟩ := Jvm.LawKit.callS X0 hx (y := (⟨"com/example/hazy_set/hazyset/Elements", "ofWholeNumber", "(J)[B"⟩ : MethodName)) hown (mvT hZ (hw _ (List.mem_of_getElem? (i := 0) rfl))) (mvT hZ (hw _ (List.mem_of_getElem? (i := 1) rfl))) (mvT hZ (hw _ (List.mem_of_getElem? (i := 2) rfl))) (mvT hZ (hw _ (List.mem_of_getElem? (i := 3) rfl))) (by decide) (backOf (W := 0) (rm1 l Z a0 hw [] q0 h0 n0 Z0) hZ (hw _ (List.mem_of_getElem? (i := 3) rfl)) (hw _ (List.mem_of_getElem? (i := 2) rfl)) (by decide) (by decide)) (g := (mkF m 1 #[.val (.long q0), .second, .unset, .unset, .unset] [(.long q0)])) rfl (by rw [hml]; rfl) (argsL := [(.long q0)]) (rest := []) (lenOf pd_0_0 rfl) rfl (by show 2 * 0 + _ ≤ _; exact Nat.le_of_eq rfl) (hb hby at_1) (fun _ _ => ⟨rfl, e0, (by decide : 0 + 1 ≤ _), (by decide : 0 + 8 ≤ _)⟩)
  dsimp only [Pt.U, Pt.locs, Pt.cells, Pt.slots] at X1 l1 y1 z1 st1 hQ1
  subst l1 y1 z1
  obtain ⟨b1, kk1, rfl, N1q, Kc1, szq1, g_b1, V1⟩ := hQ1
  have sz_b1 : h0.size ≤ b1 := Nat.le_trans (Keep.refl h0 []).1 szq1
  have K1 : Keep h0 T1.heap [] := (Keep.refl h0 _).trans Kc1 all0
  have Z1 : n0 ≤ T1.heap.size := Nat.le_trans Z0 Kc1.1
  have V1 : Arv Z T1.heap b1 kk1 .byte (8 : Int32) [(.int (f1e0 q0)), (.int (f1e1 q0)), (.int (f1e2 q0)), (.int (f1e3 q0)), (.int (f1e4 q0)), (.int (f1e5 q0)), (.int (f1e6 q0)), (.int (f1e7 q0))] (.int (0 : Int32)) := V1
  have N1 := Fr.app N0 N1q
  refine OGo.st st1 ?_
  show OGo p e below s _ _ _ (T1.setTop (mkF m 4 #[.val (.long q0), .second, .unset, .unset, .unset] [(.ref b1)]))
  refine OGo.st (fun _ k => XS.astoreN X1.here hx rfl (hb hby at_4) rfl rfl (l' := #[.val (.long q0), .second, .val (.ref b1), .unset, .unset]) rfl k) ?_
  show OGo p e below s _ _ _ (T1.setTop (mkF m 5 #[.val (.long q0), .second, .val (.ref b1), .unset, .unset] []))
  refine OGo.st (fun _ k => XS.aloadN X1.here hx rfl (hb hby at_5) rfl rfl k) ?_
  show OGo p e below s _ _ _ (T1.setTop (mkF m 6 #[.val (.long q0), .second, .val (.ref b1), .unset, .unset] [(.ref b1)]))
  refine OGo.st (fun _ k => XS.ifnullNo X1.here hx rfl (hb hby at_6) rfl k) ?_
  show OGo p e below s _ _ _ (T1.setTop (mkF m 9 #[.val (.long q0), .second, .val (.ref b1), .unset, .unset] []))
  refine OGo.st (fun _ k => XS.aloadN X1.here hx rfl (hb hby at_9) rfl rfl k) ?_
  show OGo p e below s _ _ _ (T1.setTop (mkF m 10 #[.val (.long q0), .second, .val (.ref b1), .unset, .unset] [(.ref b1)]))
  obtain ⟨cl2, Ar2, -, Sz2, Nn2, -, -⟩ := id V1
  refine OGo.st (fun _ k => X1.arraylength hx Ar2.1 (State.isArrayOf_alike hZ.alike Ar2.2.1) (g := (mkF m 10 #[.val (.long q0), .second, .val (.ref b1), .unset, .unset] [(.ref b1)])) rfl rfl (hb hby at_10) _ k) ?_
  rw [len_of Sz2 Nn2]
  show OGo p e below s _ _ _ (T1.setTop (mkF m 11 #[.val (.long q0), .second, .val (.ref b1), .unset, .unset] [(.int (8 : Int32))]))
  refine OGo.st (fun _ k => XS.bipush X1.here hx rfl (hb hby at_11) k) ?_
  show OGo p e below s _ _ _ (T1.setTop (mkF m 13 #[.val (.long q0), .second, .val (.ref b1), .unset, .unset] [(.int (8 : Int32)), (.int (8 : Int32))]))
  refine OGo.st (fun _ k => XS.icmpYes X1.here hx rfl (pc0 := 13) (pc' := 18) rfl (hb hby at_13) rfl (teq (by decide : (8 : Int32) = (8 : Int32))).1 (by decide) (by decide) k) ?_
  show OGo p e below s _ _ _ (T1.setTop (mkF m 18 #[.val (.long q0), .second, .val (.ref b1), .unset, .unset] []))
  refine OGo.st (fun _ k => XS.aloadN X1.here hx rfl (hb hby at_18) rfl rfl k) ?_
  show OGo p e below s _ _ _ (T1.setTop (mkF m 19 #[.val (.long q0), .second, .val (.ref b1), .unset, .unset] [(.ref b1)]))
  refine OGo.st (fun _ k => XS.iconst X1.here hx rfl (hb hby at_19) k) ?_
  show OGo p e below s _ _ _ (T1.setTop (mkF m 20 #[.val (.long q0), .second, .val (.ref b1), .unset, .unset] [(.int (0 : Int32)), (.ref b1)]))
  obtain ⟨cl3, Ar3, q3, Sz3, Nn3, Hs3, Gs3⟩ := id V1
  have hin3 : ¬ ((0 : Int32) < 0 ∨ cl3.slots.size ≤ ((0 : Int32)).toNatClampNeg) := inb_of Sz3 ⟨by decide, by decide⟩
  have hat3 : cl3.slots[((0 : Int32)).toNatClampNeg]? = some (.int (f1e0 q0)) := Hs3.at hin3 rfl
  refine OGo.st (fun _ k => X1.baloadBytes hx (j := (0 : Int32)) (v := (.int (f1e0 q0))) Ar3.1 (State.isArrayOf_alike hZ.alike Ar3.2.1) Ar3.2.2 hin3 hat3 (g := (mkF m 20 #[.val (.long q0), .second, .val (.ref b1), .unset, .unset] [(.int (0 : Int32)), (.ref b1)])) rfl rfl (hb hby at_20) _ k) ?_
  show OGo p e below s _ _ _ (T1.setTop (mkF m 21 #[.val (.long q0), .second, .val (.ref b1), .unset, .unset] [(.int (f1e0 q0))]))
  refine OGo.st (fun _ k => XS.i2l X1.here hx rfl (hb hby at_21) rfl k) ?_
  show OGo p e below s _ _ _ (T1.setTop (mkF m 22 #[.val (.long q0), .second, .val (.ref b1), .unset, .unset] [(.long ((f1e0 q0).toInt64))]))
  refine OGo.st (fun _ k => X1.ldc2Long hx hown (mvT hZ (hw _ (List.mem_of_getElem? (i := 5) rfl))) (g := (mkF m 22 #[.val (.long q0), .second, .val (.ref b1), .unset, .unset] [(.long ((f1e0 q0).toInt64))])) rfl (hb hby at_22) _ k) ?_
  show OGo p e below s _ _ _ (T1.setTop (mkF m 25 #[.val (.long q0), .second, .val (.ref b1), .unset, .unset] [(.long (255 : Int64)), (.long ((f1e0 q0).toInt64))]))
  refine OGo.st (fun _ k => XS.land X1.here hx rfl (hb hby at_25) rfl k) ?_
  show OGo p e below s _ _ _ (T1.setTop (mkF m 26 #[.val (.long q0), .second, .val (.ref b1), .unset, .unset] [(.long (((f1e0 q0).toInt64) &&& (255 : Int64)))]))
  refine OGo.st (fun _ k => XS.aloadN X1.here hx rfl (hb hby at_26) rfl rfl k) ?_
  show OGo p e below s _ _ _ (T1.setTop (mkF m 27 #[.val (.long q0), .second, .val (.ref b1), .unset, .unset] [(.ref b1), (.long (((f1e0 q0).toInt64) &&& (255 : Int64)))]))
  refine OGo.st (fun _ k => XS.iconst X1.here hx rfl (hb hby at_27) k) ?_
  show OGo p e below s _ _ _ (T1.setTop (mkF m 28 #[.val (.long q0), .second, .val (.ref b1), .unset, .unset] [(.int (1 : Int32)), (.ref b1), (.long (((f1e0 q0).toInt64) &&& (255 : Int64)))]))
  obtain ⟨cl4, Ar4, q4, Sz4, Nn4, Hs4, Gs4⟩ := id V1
  have hin4 : ¬ ((1 : Int32) < 0 ∨ cl4.slots.size ≤ ((1 : Int32)).toNatClampNeg) := inb_of Sz4 ⟨by decide, by decide⟩
  have hat4 : cl4.slots[((1 : Int32)).toNatClampNeg]? = some (.int (f1e1 q0)) := Hs4.at hin4 rfl
  refine OGo.st (fun _ k => X1.baloadBytes hx (j := (1 : Int32)) (v := (.int (f1e1 q0))) Ar4.1 (State.isArrayOf_alike hZ.alike Ar4.2.1) Ar4.2.2 hin4 hat4 (g := (mkF m 28 #[.val (.long q0), .second, .val (.ref b1), .unset, .unset] [(.int (1 : Int32)), (.ref b1), (.long (((f1e0 q0).toInt64) &&& (255 : Int64)))])) rfl rfl (hb hby at_28) _ k) ?_
  show OGo p e below s _ _ _ (T1.setTop (mkF m 29 #[.val (.long q0), .second, .val (.ref b1), .unset, .unset] [(.int (f1e1 q0)), (.long (((f1e0 q0).toInt64) &&& (255 : Int64)))]))
  refine OGo.st (fun _ k => XS.i2l X1.here hx rfl (hb hby at_29) rfl k) ?_
  show OGo p e below s _ _ _ (T1.setTop (mkF m 30 #[.val (.long q0), .second, .val (.ref b1), .unset, .unset] [(.long ((f1e1 q0).toInt64)), (.long (((f1e0 q0).toInt64) &&& (255 : Int64)))]))
  refine OGo.st (fun _ k => X1.ldc2Long hx hown (mvT hZ (hw _ (List.mem_of_getElem? (i := 5) rfl))) (g := (mkF m 30 #[.val (.long q0), .second, .val (.ref b1), .unset, .unset] [(.long ((f1e1 q0).toInt64)), (.long (((f1e0 q0).toInt64) &&& (255 : Int64)))])) rfl (hb hby at_30) _ k) ?_
  show OGo p e below s _ _ _ (T1.setTop (mkF m 33 #[.val (.long q0), .second, .val (.ref b1), .unset, .unset] [(.long (255 : Int64)), (.long ((f1e1 q0).toInt64)), (.long (((f1e0 q0).toInt64) &&& (255 : Int64)))]))
  refine OGo.st (fun _ k => XS.land X1.here hx rfl (hb hby at_33) rfl k) ?_
  show OGo p e below s _ _ _ (T1.setTop (mkF m 34 #[.val (.long q0), .second, .val (.ref b1), .unset, .unset] [(.long (((f1e1 q0).toInt64) &&& (255 : Int64))), (.long (((f1e0 q0).toInt64) &&& (255 : Int64)))]))
  refine OGo.st (fun _ k => XS.bipush X1.here hx rfl (hb hby at_34) k) ?_
  show OGo p e below s _ _ _ (T1.setTop (mkF m 36 #[.val (.long q0), .second, .val (.ref b1), .unset, .unset] [(.int (8 : Int32)), (.long (((f1e1 q0).toInt64) &&& (255 : Int64))), (.long (((f1e0 q0).toInt64) &&& (255 : Int64)))]))
  refine OGo.st (fun _ k => XS.lshl X1.here hx rfl (hb hby at_36) rfl k) ?_
  show OGo p e below s _ _ _ (T1.setTop (mkF m 37 #[.val (.long q0), .second, .val (.ref b1), .unset, .unset] [(.long ((((f1e1 q0).toInt64) &&& (255 : Int64)) <<< ((8 : Int32) &&& 0x3f).toInt64)), (.long (((f1e0 q0).toInt64) &&& (255 : Int64)))]))
  refine OGo.st (fun _ k => XS.lor X1.here hx rfl (hb hby at_37) rfl k) ?_
  show OGo p e below s _ _ _ (T1.setTop (mkF m 38 #[.val (.long q0), .second, .val (.ref b1), .unset, .unset] [(.long ((((f1e0 q0).toInt64) &&& (255 : Int64)) ||| ((((f1e1 q0).toInt64) &&& (255 : Int64)) <<< ((8 : Int32) &&& 0x3f).toInt64)))]))
  refine OGo.st (fun _ k => XS.aloadN X1.here hx rfl (hb hby at_38) rfl rfl k) ?_
  show OGo p e below s _ _ _ (T1.setTop (mkF m 39 #[.val (.long q0), .second, .val (.ref b1), .unset, .unset] [(.ref b1), (.long ((((f1e0 q0).toInt64) &&& (255 : Int64)) ||| ((((f1e1 q0).toInt64) &&& (255 : Int64)) <<< ((8 : Int32) &&& 0x3f).toInt64)))]))
  refine OGo.st (fun _ k => XS.iconst X1.here hx rfl (hb hby at_39) k) ?_
  show OGo p e below s _ _ _ (T1.setTop (mkF m 40 #[.val (.long q0), .second, .val (.ref b1), .unset, .unset] [(.int (2 : Int32)), (.ref b1), (.long ((((f1e0 q0).toInt64) &&& (255 : Int64)) ||| ((((f1e1 q0).toInt64) &&& (255 : Int64)) <<< ((8 : Int32) &&& 0x3f).toInt64)))]))
  obtain ⟨cl5, Ar5, q5, Sz5, Nn5, Hs5, Gs5⟩ := id V1
  have hin5 : ¬ ((2 : Int32) < 0 ∨ cl5.slots.size ≤ ((2 : Int32)).toNatClampNeg) := inb_of Sz5 ⟨by decide, by decide⟩
  have hat5 : cl5.slots[((2 : Int32)).toNatClampNeg]? = some (.int (f1e2 q0)) := Hs5.at hin5 rfl
  refine OGo.st (fun _ k => X1.baloadBytes hx (j := (2 : Int32)) (v := (.int (f1e2 q0))) Ar5.1 (State.isArrayOf_alike hZ.alike Ar5.2.1) Ar5.2.2 hin5 hat5 (g := (mkF m 40 #[.val (.long q0), .second, .val (.ref b1), .unset, .unset] [(.int (2 : Int32)), (.ref b1), (.long ((((f1e0 q0).toInt64) &&& (255 : Int64)) ||| ((((f1e1 q0).toInt64) &&& (255 : Int64)) <<< ((8 : Int32) &&& 0x3f).toInt64)))])) rfl rfl (hb hby at_40) _ k) ?_
  show OGo p e below s _ _ _ (T1.setTop (mkF m 41 #[.val (.long q0), .second, .val (.ref b1), .unset, .unset] [(.int (f1e2 q0)), (.long ((((f1e0 q0).toInt64) &&& (255 : Int64)) ||| ((((f1e1 q0).toInt64) &&& (255 : Int64)) <<< ((8 : Int32) &&& 0x3f).toInt64)))]))
  refine OGo.st (fun _ k => XS.i2l X1.here hx rfl (hb hby at_41) rfl k) ?_
  show OGo p e below s _ _ _ (T1.setTop (mkF m 42 #[.val (.long q0), .second, .val (.ref b1), .unset, .unset] [(.long ((f1e2 q0).toInt64)), (.long ((((f1e0 q0).toInt64) &&& (255 : Int64)) ||| ((((f1e1 q0).toInt64) &&& (255 : Int64)) <<< ((8 : Int32) &&& 0x3f).toInt64)))]))
  refine OGo.st (fun _ k => X1.ldc2Long hx hown (mvT hZ (hw _ (List.mem_of_getElem? (i := 5) rfl))) (g := (mkF m 42 #[.val (.long q0), .second, .val (.ref b1), .unset, .unset] [(.long ((f1e2 q0).toInt64)), (.long ((((f1e0 q0).toInt64) &&& (255 : Int64)) ||| ((((f1e1 q0).toInt64) &&& (255 : Int64)) <<< ((8 : Int32) &&& 0x3f).toInt64)))])) rfl (hb hby at_42) _ k) ?_
  show OGo p e below s _ _ _ (T1.setTop (mkF m 45 #[.val (.long q0), .second, .val (.ref b1), .unset, .unset] [(.long (255 : Int64)), (.long ((f1e2 q0).toInt64)), (.long ((((f1e0 q0).toInt64) &&& (255 : Int64)) ||| ((((f1e1 q0).toInt64) &&& (255 : Int64)) <<< ((8 : Int32) &&& 0x3f).toInt64)))]))
  refine OGo.st (fun _ k => XS.land X1.here hx rfl (hb hby at_45) rfl k) ?_
  show OGo p e below s _ _ _ (T1.setTop (mkF m 46 #[.val (.long q0), .second, .val (.ref b1), .unset, .unset] [(.long (((f1e2 q0).toInt64) &&& (255 : Int64))), (.long ((((f1e0 q0).toInt64) &&& (255 : Int64)) ||| ((((f1e1 q0).toInt64) &&& (255 : Int64)) <<< ((8 : Int32) &&& 0x3f).toInt64)))]))
  refine OGo.st (fun _ k => XS.bipush X1.here hx rfl (hb hby at_46) k) ?_
  show OGo p e below s _ _ _ (T1.setTop (mkF m 48 #[.val (.long q0), .second, .val (.ref b1), .unset, .unset] [(.int (16 : Int32)), (.long (((f1e2 q0).toInt64) &&& (255 : Int64))), (.long ((((f1e0 q0).toInt64) &&& (255 : Int64)) ||| ((((f1e1 q0).toInt64) &&& (255 : Int64)) <<< ((8 : Int32) &&& 0x3f).toInt64)))]))
  refine OGo.st (fun _ k => XS.lshl X1.here hx rfl (hb hby at_48) rfl k) ?_
  show OGo p e below s _ _ _ (T1.setTop (mkF m 49 #[.val (.long q0), .second, .val (.ref b1), .unset, .unset] [(.long ((((f1e2 q0).toInt64) &&& (255 : Int64)) <<< ((16 : Int32) &&& 0x3f).toInt64)), (.long ((((f1e0 q0).toInt64) &&& (255 : Int64)) ||| ((((f1e1 q0).toInt64) &&& (255 : Int64)) <<< ((8 : Int32) &&& 0x3f).toInt64)))]))
  refine OGo.st (fun _ k => XS.lor X1.here hx rfl (hb hby at_49) rfl k) ?_
  show OGo p e below s _ _ _ (T1.setTop (mkF m 50 #[.val (.long q0), .second, .val (.ref b1), .unset, .unset] [(.long (((((f1e0 q0).toInt64) &&& (255 : Int64)) ||| ((((f1e1 q0).toInt64) &&& (255 : Int64)) <<< ((8 : Int32) &&& 0x3f).toInt64)) ||| ((((f1e2 q0).toInt64) &&& (255 : Int64)) <<< ((16 : Int32) &&& 0x3f).toInt64)))]))
  refine OGo.st (fun _ k => XS.aloadN X1.here hx rfl (hb hby at_50) rfl rfl k) ?_
  show OGo p e below s _ _ _ (T1.setTop (mkF m 51 #[.val (.long q0), .second, .val (.ref b1), .unset, .unset] [(.ref b1), (.long (((((f1e0 q0).toInt64) &&& (255 : Int64)) ||| ((((f1e1 q0).toInt64) &&& (255 : Int64)) <<< ((8 : Int32) &&& 0x3f).toInt64)) ||| ((((f1e2 q0).toInt64) &&& (255 : Int64)) <<< ((16 : Int32) &&& 0x3f).toInt64)))]))
  refine OGo.st (fun _ k => XS.iconst X1.here hx rfl (hb hby at_51) k) ?_
  show OGo p e below s _ _ _ (T1.setTop (mkF m 52 #[.val (.long q0), .second, .val (.ref b1), .unset, .unset] [(.int (3 : Int32)), (.ref b1), (.long (((((f1e0 q0).toInt64) &&& (255 : Int64)) ||| ((((f1e1 q0).toInt64) &&& (255 : Int64)) <<< ((8 : Int32) &&& 0x3f).toInt64)) ||| ((((f1e2 q0).toInt64) &&& (255 : Int64)) <<< ((16 : Int32) &&& 0x3f).toInt64)))]))
  obtain ⟨cl6, Ar6, q6, Sz6, Nn6, Hs6, Gs6⟩ := id V1
  have hin6 : ¬ ((3 : Int32) < 0 ∨ cl6.slots.size ≤ ((3 : Int32)).toNatClampNeg) := inb_of Sz6 ⟨by decide, by decide⟩
  have hat6 : cl6.slots[((3 : Int32)).toNatClampNeg]? = some (.int (f1e3 q0)) := Hs6.at hin6 rfl
  refine OGo.st (fun _ k => X1.baloadBytes hx (j := (3 : Int32)) (v := (.int (f1e3 q0))) Ar6.1 (State.isArrayOf_alike hZ.alike Ar6.2.1) Ar6.2.2 hin6 hat6 (g := (mkF m 52 #[.val (.long q0), .second, .val (.ref b1), .unset, .unset] [(.int (3 : Int32)), (.ref b1), (.long (((((f1e0 q0).toInt64) &&& (255 : Int64)) ||| ((((f1e1 q0).toInt64) &&& (255 : Int64)) <<< ((8 : Int32) &&& 0x3f).toInt64)) ||| ((((f1e2 q0).toInt64) &&& (255 : Int64)) <<< ((16 : Int32) &&& 0x3f).toInt64)))])) rfl rfl (hb hby at_52) _ k) ?_
  show OGo p e below s _ _ _ (T1.setTop (mkF m 53 #[.val (.long q0), .second, .val (.ref b1), .unset, .unset] [(.int (f1e3 q0)), (.long (((((f1e0 q0).toInt64) &&& (255 : Int64)) ||| ((((f1e1 q0).toInt64) &&& (255 : Int64)) <<< ((8 : Int32) &&& 0x3f).toInt64)) ||| ((((f1e2 q0).toInt64) &&& (255 : Int64)) <<< ((16 : Int32) &&& 0x3f).toInt64)))]))
  refine OGo.st (fun _ k => XS.i2l X1.here hx rfl (hb hby at_53) rfl k) ?_
  show OGo p e below s _ _ _ (T1.setTop (mkF m 54 #[.val (.long q0), .second, .val (.ref b1), .unset, .unset] [(.long ((f1e3 q0).toInt64)), (.long (((((f1e0 q0).toInt64) &&& (255 : Int64)) ||| ((((f1e1 q0).toInt64) &&& (255 : Int64)) <<< ((8 : Int32) &&& 0x3f).toInt64)) ||| ((((f1e2 q0).toInt64) &&& (255 : Int64)) <<< ((16 : Int32) &&& 0x3f).toInt64)))]))
  refine OGo.st (fun _ k => X1.ldc2Long hx hown (mvT hZ (hw _ (List.mem_of_getElem? (i := 5) rfl))) (g := (mkF m 54 #[.val (.long q0), .second, .val (.ref b1), .unset, .unset] [(.long ((f1e3 q0).toInt64)), (.long (((((f1e0 q0).toInt64) &&& (255 : Int64)) ||| ((((f1e1 q0).toInt64) &&& (255 : Int64)) <<< ((8 : Int32) &&& 0x3f).toInt64)) ||| ((((f1e2 q0).toInt64) &&& (255 : Int64)) <<< ((16 : Int32) &&& 0x3f).toInt64)))])) rfl (hb hby at_54) _ k) ?_
  show OGo p e below s _ _ _ (T1.setTop (mkF m 57 #[.val (.long q0), .second, .val (.ref b1), .unset, .unset] [(.long (255 : Int64)), (.long ((f1e3 q0).toInt64)), (.long (((((f1e0 q0).toInt64) &&& (255 : Int64)) ||| ((((f1e1 q0).toInt64) &&& (255 : Int64)) <<< ((8 : Int32) &&& 0x3f).toInt64)) ||| ((((f1e2 q0).toInt64) &&& (255 : Int64)) <<< ((16 : Int32) &&& 0x3f).toInt64)))]))
  refine OGo.st (fun _ k => XS.land X1.here hx rfl (hb hby at_57) rfl k) ?_
  show OGo p e below s _ _ _ (T1.setTop (mkF m 58 #[.val (.long q0), .second, .val (.ref b1), .unset, .unset] [(.long (((f1e3 q0).toInt64) &&& (255 : Int64))), (.long (((((f1e0 q0).toInt64) &&& (255 : Int64)) ||| ((((f1e1 q0).toInt64) &&& (255 : Int64)) <<< ((8 : Int32) &&& 0x3f).toInt64)) ||| ((((f1e2 q0).toInt64) &&& (255 : Int64)) <<< ((16 : Int32) &&& 0x3f).toInt64)))]))
  refine OGo.st (fun _ k => XS.bipush X1.here hx rfl (hb hby at_58) k) ?_
  show OGo p e below s _ _ _ (T1.setTop (mkF m 60 #[.val (.long q0), .second, .val (.ref b1), .unset, .unset] [(.int (24 : Int32)), (.long (((f1e3 q0).toInt64) &&& (255 : Int64))), (.long (((((f1e0 q0).toInt64) &&& (255 : Int64)) ||| ((((f1e1 q0).toInt64) &&& (255 : Int64)) <<< ((8 : Int32) &&& 0x3f).toInt64)) ||| ((((f1e2 q0).toInt64) &&& (255 : Int64)) <<< ((16 : Int32) &&& 0x3f).toInt64)))]))
  refine OGo.st (fun _ k => XS.lshl X1.here hx rfl (hb hby at_60) rfl k) ?_
  show OGo p e below s _ _ _ (T1.setTop (mkF m 61 #[.val (.long q0), .second, .val (.ref b1), .unset, .unset] [(.long ((((f1e3 q0).toInt64) &&& (255 : Int64)) <<< ((24 : Int32) &&& 0x3f).toInt64)), (.long (((((f1e0 q0).toInt64) &&& (255 : Int64)) ||| ((((f1e1 q0).toInt64) &&& (255 : Int64)) <<< ((8 : Int32) &&& 0x3f).toInt64)) ||| ((((f1e2 q0).toInt64) &&& (255 : Int64)) <<< ((16 : Int32) &&& 0x3f).toInt64)))]))
  refine OGo.st (fun _ k => XS.lor X1.here hx rfl (hb hby at_61) rfl k) ?_
  show OGo p e below s _ _ _ (T1.setTop (mkF m 62 #[.val (.long q0), .second, .val (.ref b1), .unset, .unset] [(.long ((((((f1e0 q0).toInt64) &&& (255 : Int64)) ||| ((((f1e1 q0).toInt64) &&& (255 : Int64)) <<< ((8 : Int32) &&& 0x3f).toInt64)) ||| ((((f1e2 q0).toInt64) &&& (255 : Int64)) <<< ((16 : Int32) &&& 0x3f).toInt64)) ||| ((((f1e3 q0).toInt64) &&& (255 : Int64)) <<< ((24 : Int32) &&& 0x3f).toInt64)))]))
  refine OGo.st (fun _ k => XS.aloadN X1.here hx rfl (hb hby at_62) rfl rfl k) ?_
  show OGo p e below s _ _ _ (T1.setTop (mkF m 63 #[.val (.long q0), .second, .val (.ref b1), .unset, .unset] [(.ref b1), (.long ((((((f1e0 q0).toInt64) &&& (255 : Int64)) ||| ((((f1e1 q0).toInt64) &&& (255 : Int64)) <<< ((8 : Int32) &&& 0x3f).toInt64)) ||| ((((f1e2 q0).toInt64) &&& (255 : Int64)) <<< ((16 : Int32) &&& 0x3f).toInt64)) ||| ((((f1e3 q0).toInt64) &&& (255 : Int64)) <<< ((24 : Int32) &&& 0x3f).toInt64)))]))
  refine OGo.st (fun _ k => XS.iconst X1.here hx rfl (hb hby at_63) k) ?_
  show OGo p e below s _ _ _ (T1.setTop (mkF m 64 #[.val (.long q0), .second, .val (.ref b1), .unset, .unset] [(.int (4 : Int32)), (.ref b1), (.long ((((((f1e0 q0).toInt64) &&& (255 : Int64)) ||| ((((f1e1 q0).toInt64) &&& (255 : Int64)) <<< ((8 : Int32) &&& 0x3f).toInt64)) ||| ((((f1e2 q0).toInt64) &&& (255 : Int64)) <<< ((16 : Int32) &&& 0x3f).toInt64)) ||| ((((f1e3 q0).toInt64) &&& (255 : Int64)) <<< ((24 : Int32) &&& 0x3f).toInt64)))]))
  obtain ⟨cl7, Ar7, q7, Sz7, Nn7, Hs7, Gs7⟩ := id V1
  have hin7 : ¬ ((4 : Int32) < 0 ∨ cl7.slots.size ≤ ((4 : Int32)).toNatClampNeg) := inb_of Sz7 ⟨by decide, by decide⟩
  have hat7 : cl7.slots[((4 : Int32)).toNatClampNeg]? = some (.int (f1e4 q0)) := Hs7.at hin7 rfl
  refine OGo.st (fun _ k => X1.baloadBytes hx (j := (4 : Int32)) (v := (.int (f1e4 q0))) Ar7.1 (State.isArrayOf_alike hZ.alike Ar7.2.1) Ar7.2.2 hin7 hat7 (g := (mkF m 64 #[.val (.long q0), .second, .val (.ref b1), .unset, .unset] [(.int (4 : Int32)), (.ref b1), (.long ((((((f1e0 q0).toInt64) &&& (255 : Int64)) ||| ((((f1e1 q0).toInt64) &&& (255 : Int64)) <<< ((8 : Int32) &&& 0x3f).toInt64)) ||| ((((f1e2 q0).toInt64) &&& (255 : Int64)) <<< ((16 : Int32) &&& 0x3f).toInt64)) ||| ((((f1e3 q0).toInt64) &&& (255 : Int64)) <<< ((24 : Int32) &&& 0x3f).toInt64)))])) rfl rfl (hb hby at_64) _ k) ?_
  show OGo p e below s _ _ _ (T1.setTop (mkF m 65 #[.val (.long q0), .second, .val (.ref b1), .unset, .unset] [(.int (f1e4 q0)), (.long ((((((f1e0 q0).toInt64) &&& (255 : Int64)) ||| ((((f1e1 q0).toInt64) &&& (255 : Int64)) <<< ((8 : Int32) &&& 0x3f).toInt64)) ||| ((((f1e2 q0).toInt64) &&& (255 : Int64)) <<< ((16 : Int32) &&& 0x3f).toInt64)) ||| ((((f1e3 q0).toInt64) &&& (255 : Int64)) <<< ((24 : Int32) &&& 0x3f).toInt64)))]))
  refine OGo.st (fun _ k => XS.i2l X1.here hx rfl (hb hby at_65) rfl k) ?_
  show OGo p e below s _ _ _ (T1.setTop (mkF m 66 #[.val (.long q0), .second, .val (.ref b1), .unset, .unset] [(.long ((f1e4 q0).toInt64)), (.long ((((((f1e0 q0).toInt64) &&& (255 : Int64)) ||| ((((f1e1 q0).toInt64) &&& (255 : Int64)) <<< ((8 : Int32) &&& 0x3f).toInt64)) ||| ((((f1e2 q0).toInt64) &&& (255 : Int64)) <<< ((16 : Int32) &&& 0x3f).toInt64)) ||| ((((f1e3 q0).toInt64) &&& (255 : Int64)) <<< ((24 : Int32) &&& 0x3f).toInt64)))]))
  refine OGo.st (fun _ k => X1.ldc2Long hx hown (mvT hZ (hw _ (List.mem_of_getElem? (i := 5) rfl))) (g := (mkF m 66 #[.val (.long q0), .second, .val (.ref b1), .unset, .unset] [(.long ((f1e4 q0).toInt64)), (.long ((((((f1e0 q0).toInt64) &&& (255 : Int64)) ||| ((((f1e1 q0).toInt64) &&& (255 : Int64)) <<< ((8 : Int32) &&& 0x3f).toInt64)) ||| ((((f1e2 q0).toInt64) &&& (255 : Int64)) <<< ((16 : Int32) &&& 0x3f).toInt64)) ||| ((((f1e3 q0).toInt64) &&& (255 : Int64)) <<< ((24 : Int32) &&& 0x3f).toInt64)))])) rfl (hb hby at_66) _ k) ?_
  show OGo p e below s _ _ _ (T1.setTop (mkF m 69 #[.val (.long q0), .second, .val (.ref b1), .unset, .unset] [(.long (255 : Int64)), (.long ((f1e4 q0).toInt64)), (.long ((((((f1e0 q0).toInt64) &&& (255 : Int64)) ||| ((((f1e1 q0).toInt64) &&& (255 : Int64)) <<< ((8 : Int32) &&& 0x3f).toInt64)) ||| ((((f1e2 q0).toInt64) &&& (255 : Int64)) <<< ((16 : Int32) &&& 0x3f).toInt64)) ||| ((((f1e3 q0).toInt64) &&& (255 : Int64)) <<< ((24 : Int32) &&& 0x3f).toInt64)))]))
  refine OGo.st (fun _ k => XS.land X1.here hx rfl (hb hby at_69) rfl k) ?_
  show OGo p e below s _ _ _ (T1.setTop (mkF m 70 #[.val (.long q0), .second, .val (.ref b1), .unset, .unset] [(.long (((f1e4 q0).toInt64) &&& (255 : Int64))), (.long ((((((f1e0 q0).toInt64) &&& (255 : Int64)) ||| ((((f1e1 q0).toInt64) &&& (255 : Int64)) <<< ((8 : Int32) &&& 0x3f).toInt64)) ||| ((((f1e2 q0).toInt64) &&& (255 : Int64)) <<< ((16 : Int32) &&& 0x3f).toInt64)) ||| ((((f1e3 q0).toInt64) &&& (255 : Int64)) <<< ((24 : Int32) &&& 0x3f).toInt64)))]))
  refine OGo.st (fun _ k => XS.bipush X1.here hx rfl (hb hby at_70) k) ?_
  show OGo p e below s _ _ _ (T1.setTop (mkF m 72 #[.val (.long q0), .second, .val (.ref b1), .unset, .unset] [(.int (32 : Int32)), (.long (((f1e4 q0).toInt64) &&& (255 : Int64))), (.long ((((((f1e0 q0).toInt64) &&& (255 : Int64)) ||| ((((f1e1 q0).toInt64) &&& (255 : Int64)) <<< ((8 : Int32) &&& 0x3f).toInt64)) ||| ((((f1e2 q0).toInt64) &&& (255 : Int64)) <<< ((16 : Int32) &&& 0x3f).toInt64)) ||| ((((f1e3 q0).toInt64) &&& (255 : Int64)) <<< ((24 : Int32) &&& 0x3f).toInt64)))]))
  refine OGo.st (fun _ k => XS.lshl X1.here hx rfl (hb hby at_72) rfl k) ?_
  show OGo p e below s _ _ _ (T1.setTop (mkF m 73 #[.val (.long q0), .second, .val (.ref b1), .unset, .unset] [(.long ((((f1e4 q0).toInt64) &&& (255 : Int64)) <<< ((32 : Int32) &&& 0x3f).toInt64)), (.long ((((((f1e0 q0).toInt64) &&& (255 : Int64)) ||| ((((f1e1 q0).toInt64) &&& (255 : Int64)) <<< ((8 : Int32) &&& 0x3f).toInt64)) ||| ((((f1e2 q0).toInt64) &&& (255 : Int64)) <<< ((16 : Int32) &&& 0x3f).toInt64)) ||| ((((f1e3 q0).toInt64) &&& (255 : Int64)) <<< ((24 : Int32) &&& 0x3f).toInt64)))]))
  refine OGo.st (fun _ k => XS.lor X1.here hx rfl (hb hby at_73) rfl k) ?_
  show OGo p e below s _ _ _ (T1.setTop (mkF m 74 #[.val (.long q0), .second, .val (.ref b1), .unset, .unset] [(.long (((((((f1e0 q0).toInt64) &&& (255 : Int64)) ||| ((((f1e1 q0).toInt64) &&& (255 : Int64)) <<< ((8 : Int32) &&& 0x3f).toInt64)) ||| ((((f1e2 q0).toInt64) &&& (255 : Int64)) <<< ((16 : Int32) &&& 0x3f).toInt64)) ||| ((((f1e3 q0).toInt64) &&& (255 : Int64)) <<< ((24 : Int32) &&& 0x3f).toInt64)) ||| ((((f1e4 q0).toInt64) &&& (255 : Int64)) <<< ((32 : Int32) &&& 0x3f).toInt64)))]))
  refine OGo.st (fun _ k => XS.aloadN X1.here hx rfl (hb hby at_74) rfl rfl k) ?_
  show OGo p e below s _ _ _ (T1.setTop (mkF m 75 #[.val (.long q0), .second, .val (.ref b1), .unset, .unset] [(.ref b1), (.long (((((((f1e0 q0).toInt64) &&& (255 : Int64)) ||| ((((f1e1 q0).toInt64) &&& (255 : Int64)) <<< ((8 : Int32) &&& 0x3f).toInt64)) ||| ((((f1e2 q0).toInt64) &&& (255 : Int64)) <<< ((16 : Int32) &&& 0x3f).toInt64)) ||| ((((f1e3 q0).toInt64) &&& (255 : Int64)) <<< ((24 : Int32) &&& 0x3f).toInt64)) ||| ((((f1e4 q0).toInt64) &&& (255 : Int64)) <<< ((32 : Int32) &&& 0x3f).toInt64)))]))
  refine OGo.st (fun _ k => XS.iconst X1.here hx rfl (hb hby at_75) k) ?_
  show OGo p e below s _ _ _ (T1.setTop (mkF m 76 #[.val (.long q0), .second, .val (.ref b1), .unset, .unset] [(.int (5 : Int32)), (.ref b1), (.long (((((((f1e0 q0).toInt64) &&& (255 : Int64)) ||| ((((f1e1 q0).toInt64) &&& (255 : Int64)) <<< ((8 : Int32) &&& 0x3f).toInt64)) ||| ((((f1e2 q0).toInt64) &&& (255 : Int64)) <<< ((16 : Int32) &&& 0x3f).toInt64)) ||| ((((f1e3 q0).toInt64) &&& (255 : Int64)) <<< ((24 : Int32) &&& 0x3f).toInt64)) ||| ((((f1e4 q0).toInt64) &&& (255 : Int64)) <<< ((32 : Int32) &&& 0x3f).toInt64)))]))
  obtain ⟨cl8, Ar8, q8, Sz8, Nn8, Hs8, Gs8⟩ := id V1
  have hin8 : ¬ ((5 : Int32) < 0 ∨ cl8.slots.size ≤ ((5 : Int32)).toNatClampNeg) := inb_of Sz8 ⟨by decide, by decide⟩
  have hat8 : cl8.slots[((5 : Int32)).toNatClampNeg]? = some (.int (f1e5 q0)) := Hs8.at hin8 rfl
  refine OGo.st (fun _ k => X1.baloadBytes hx (j := (5 : Int32)) (v := (.int (f1e5 q0))) Ar8.1 (State.isArrayOf_alike hZ.alike Ar8.2.1) Ar8.2.2 hin8 hat8 (g := (mkF m 76 #[.val (.long q0), .second, .val (.ref b1), .unset, .unset] [(.int (5 : Int32)), (.ref b1), (.long (((((((f1e0 q0).toInt64) &&& (255 : Int64)) ||| ((((f1e1 q0).toInt64) &&& (255 : Int64)) <<< ((8 : Int32) &&& 0x3f).toInt64)) ||| ((((f1e2 q0).toInt64) &&& (255 : Int64)) <<< ((16 : Int32) &&& 0x3f).toInt64)) ||| ((((f1e3 q0).toInt64) &&& (255 : Int64)) <<< ((24 : Int32) &&& 0x3f).toInt64)) ||| ((((f1e4 q0).toInt64) &&& (255 : Int64)) <<< ((32 : Int32) &&& 0x3f).toInt64)))])) rfl rfl (hb hby at_76) _ k) ?_
  show OGo p e below s _ _ _ (T1.setTop (mkF m 77 #[.val (.long q0), .second, .val (.ref b1), .unset, .unset] [(.int (f1e5 q0)), (.long (((((((f1e0 q0).toInt64) &&& (255 : Int64)) ||| ((((f1e1 q0).toInt64) &&& (255 : Int64)) <<< ((8 : Int32) &&& 0x3f).toInt64)) ||| ((((f1e2 q0).toInt64) &&& (255 : Int64)) <<< ((16 : Int32) &&& 0x3f).toInt64)) ||| ((((f1e3 q0).toInt64) &&& (255 : Int64)) <<< ((24 : Int32) &&& 0x3f).toInt64)) ||| ((((f1e4 q0).toInt64) &&& (255 : Int64)) <<< ((32 : Int32) &&& 0x3f).toInt64)))]))
  refine OGo.st (fun _ k => XS.i2l X1.here hx rfl (hb hby at_77) rfl k) ?_
  show OGo p e below s _ _ _ (T1.setTop (mkF m 78 #[.val (.long q0), .second, .val (.ref b1), .unset, .unset] [(.long ((f1e5 q0).toInt64)), (.long (((((((f1e0 q0).toInt64) &&& (255 : Int64)) ||| ((((f1e1 q0).toInt64) &&& (255 : Int64)) <<< ((8 : Int32) &&& 0x3f).toInt64)) ||| ((((f1e2 q0).toInt64) &&& (255 : Int64)) <<< ((16 : Int32) &&& 0x3f).toInt64)) ||| ((((f1e3 q0).toInt64) &&& (255 : Int64)) <<< ((24 : Int32) &&& 0x3f).toInt64)) ||| ((((f1e4 q0).toInt64) &&& (255 : Int64)) <<< ((32 : Int32) &&& 0x3f).toInt64)))]))
  refine OGo.st (fun _ k => X1.ldc2Long hx hown (mvT hZ (hw _ (List.mem_of_getElem? (i := 5) rfl))) (g := (mkF m 78 #[.val (.long q0), .second, .val (.ref b1), .unset, .unset] [(.long ((f1e5 q0).toInt64)), (.long (((((((f1e0 q0).toInt64) &&& (255 : Int64)) ||| ((((f1e1 q0).toInt64) &&& (255 : Int64)) <<< ((8 : Int32) &&& 0x3f).toInt64)) ||| ((((f1e2 q0).toInt64) &&& (255 : Int64)) <<< ((16 : Int32) &&& 0x3f).toInt64)) ||| ((((f1e3 q0).toInt64) &&& (255 : Int64)) <<< ((24 : Int32) &&& 0x3f).toInt64)) ||| ((((f1e4 q0).toInt64) &&& (255 : Int64)) <<< ((32 : Int32) &&& 0x3f).toInt64)))])) rfl (hb hby at_78) _ k) ?_
  show OGo p e below s _ _ _ (T1.setTop (mkF m 81 #[.val (.long q0), .second, .val (.ref b1), .unset, .unset] [(.long (255 : Int64)), (.long ((f1e5 q0).toInt64)), (.long (((((((f1e0 q0).toInt64) &&& (255 : Int64)) ||| ((((f1e1 q0).toInt64) &&& (255 : Int64)) <<< ((8 : Int32) &&& 0x3f).toInt64)) ||| ((((f1e2 q0).toInt64) &&& (255 : Int64)) <<< ((16 : Int32) &&& 0x3f).toInt64)) ||| ((((f1e3 q0).toInt64) &&& (255 : Int64)) <<< ((24 : Int32) &&& 0x3f).toInt64)) ||| ((((f1e4 q0).toInt64) &&& (255 : Int64)) <<< ((32 : Int32) &&& 0x3f).toInt64)))]))
  refine OGo.st (fun _ k => XS.land X1.here hx rfl (hb hby at_81) rfl k) ?_
  show OGo p e below s _ _ _ (T1.setTop (mkF m 82 #[.val (.long q0), .second, .val (.ref b1), .unset, .unset] [(.long (((f1e5 q0).toInt64) &&& (255 : Int64))), (.long (((((((f1e0 q0).toInt64) &&& (255 : Int64)) ||| ((((f1e1 q0).toInt64) &&& (255 : Int64)) <<< ((8 : Int32) &&& 0x3f).toInt64)) ||| ((((f1e2 q0).toInt64) &&& (255 : Int64)) <<< ((16 : Int32) &&& 0x3f).toInt64)) ||| ((((f1e3 q0).toInt64) &&& (255 : Int64)) <<< ((24 : Int32) &&& 0x3f).toInt64)) ||| ((((f1e4 q0).toInt64) &&& (255 : Int64)) <<< ((32 : Int32) &&& 0x3f).toInt64)))]))
  refine OGo.st (fun _ k => XS.bipush X1.here hx rfl (hb hby at_82) k) ?_
  show OGo p e below s _ _ _ (T1.setTop (mkF m 84 #[.val (.long q0), .second, .val (.ref b1), .unset, .unset] [(.int (40 : Int32)), (.long (((f1e5 q0).toInt64) &&& (255 : Int64))), (.long (((((((f1e0 q0).toInt64) &&& (255 : Int64)) ||| ((((f1e1 q0).toInt64) &&& (255 : Int64)) <<< ((8 : Int32) &&& 0x3f).toInt64)) ||| ((((f1e2 q0).toInt64) &&& (255 : Int64)) <<< ((16 : Int32) &&& 0x3f).toInt64)) ||| ((((f1e3 q0).toInt64) &&& (255 : Int64)) <<< ((24 : Int32) &&& 0x3f).toInt64)) ||| ((((f1e4 q0).toInt64) &&& (255 : Int64)) <<< ((32 : Int32) &&& 0x3f).toInt64)))]))
  refine OGo.st (fun _ k => XS.lshl X1.here hx rfl (hb hby at_84) rfl k) ?_
  show OGo p e below s _ _ _ (T1.setTop (mkF m 85 #[.val (.long q0), .second, .val (.ref b1), .unset, .unset] [(.long ((((f1e5 q0).toInt64) &&& (255 : Int64)) <<< ((40 : Int32) &&& 0x3f).toInt64)), (.long (((((((f1e0 q0).toInt64) &&& (255 : Int64)) ||| ((((f1e1 q0).toInt64) &&& (255 : Int64)) <<< ((8 : Int32) &&& 0x3f).toInt64)) ||| ((((f1e2 q0).toInt64) &&& (255 : Int64)) <<< ((16 : Int32) &&& 0x3f).toInt64)) ||| ((((f1e3 q0).toInt64) &&& (255 : Int64)) <<< ((24 : Int32) &&& 0x3f).toInt64)) ||| ((((f1e4 q0).toInt64) &&& (255 : Int64)) <<< ((32 : Int32) &&& 0x3f).toInt64)))]))
  refine OGo.st (fun _ k => XS.lor X1.here hx rfl (hb hby at_85) rfl k) ?_
  show OGo p e below s _ _ _ (T1.setTop (mkF m 86 #[.val (.long q0), .second, .val (.ref b1), .unset, .unset] [(.long ((((((((f1e0 q0).toInt64) &&& (255 : Int64)) ||| ((((f1e1 q0).toInt64) &&& (255 : Int64)) <<< ((8 : Int32) &&& 0x3f).toInt64)) ||| ((((f1e2 q0).toInt64) &&& (255 : Int64)) <<< ((16 : Int32) &&& 0x3f).toInt64)) ||| ((((f1e3 q0).toInt64) &&& (255 : Int64)) <<< ((24 : Int32) &&& 0x3f).toInt64)) ||| ((((f1e4 q0).toInt64) &&& (255 : Int64)) <<< ((32 : Int32) &&& 0x3f).toInt64)) ||| ((((f1e5 q0).toInt64) &&& (255 : Int64)) <<< ((40 : Int32) &&& 0x3f).toInt64)))]))
  refine OGo.st (fun _ k => XS.aloadN X1.here hx rfl (hb hby at_86) rfl rfl k) ?_
  show OGo p e below s _ _ _ (T1.setTop (mkF m 87 #[.val (.long q0), .second, .val (.ref b1), .unset, .unset] [(.ref b1), (.long ((((((((f1e0 q0).toInt64) &&& (255 : Int64)) ||| ((((f1e1 q0).toInt64) &&& (255 : Int64)) <<< ((8 : Int32) &&& 0x3f).toInt64)) ||| ((((f1e2 q0).toInt64) &&& (255 : Int64)) <<< ((16 : Int32) &&& 0x3f).toInt64)) ||| ((((f1e3 q0).toInt64) &&& (255 : Int64)) <<< ((24 : Int32) &&& 0x3f).toInt64)) ||| ((((f1e4 q0).toInt64) &&& (255 : Int64)) <<< ((32 : Int32) &&& 0x3f).toInt64)) ||| ((((f1e5 q0).toInt64) &&& (255 : Int64)) <<< ((40 : Int32) &&& 0x3f).toInt64)))]))
  refine OGo.st (fun _ k => XS.bipush X1.here hx rfl (hb hby at_87) k) ?_
  show OGo p e below s _ _ _ (T1.setTop (mkF m 89 #[.val (.long q0), .second, .val (.ref b1), .unset, .unset] [(.int (6 : Int32)), (.ref b1), (.long ((((((((f1e0 q0).toInt64) &&& (255 : Int64)) ||| ((((f1e1 q0).toInt64) &&& (255 : Int64)) <<< ((8 : Int32) &&& 0x3f).toInt64)) ||| ((((f1e2 q0).toInt64) &&& (255 : Int64)) <<< ((16 : Int32) &&& 0x3f).toInt64)) ||| ((((f1e3 q0).toInt64) &&& (255 : Int64)) <<< ((24 : Int32) &&& 0x3f).toInt64)) ||| ((((f1e4 q0).toInt64) &&& (255 : Int64)) <<< ((32 : Int32) &&& 0x3f).toInt64)) ||| ((((f1e5 q0).toInt64) &&& (255 : Int64)) <<< ((40 : Int32) &&& 0x3f).toInt64)))]))
  obtain ⟨cl9, Ar9, q9, Sz9, Nn9, Hs9, Gs9⟩ := id V1
  have hin9 : ¬ ((6 : Int32) < 0 ∨ cl9.slots.size ≤ ((6 : Int32)).toNatClampNeg) := inb_of Sz9 ⟨by decide, by decide⟩
  have hat9 : cl9.slots[((6 : Int32)).toNatClampNeg]? = some (.int (f1e6 q0)) := Hs9.at hin9 rfl
  refine OGo.st (fun _ k => X1.baloadBytes hx (j := (6 : Int32)) (v := (.int (f1e6 q0))) Ar9.1 (State.isArrayOf_alike hZ.alike Ar9.2.1) Ar9.2.2 hin9 hat9 (g := (mkF m 89 #[.val (.long q0), .second, .val (.ref b1), .unset, .unset] [(.int (6 : Int32)), (.ref b1), (.long ((((((((f1e0 q0).toInt64) &&& (255 : Int64)) ||| ((((f1e1 q0).toInt64) &&& (255 : Int64)) <<< ((8 : Int32) &&& 0x3f).toInt64)) ||| ((((f1e2 q0).toInt64) &&& (255 : Int64)) <<< ((16 : Int32) &&& 0x3f).toInt64)) ||| ((((f1e3 q0).toInt64) &&& (255 : Int64)) <<< ((24 : Int32) &&& 0x3f).toInt64)) ||| ((((f1e4 q0).toInt64) &&& (255 : Int64)) <<< ((32 : Int32) &&& 0x3f).toInt64)) ||| ((((f1e5 q0).toInt64) &&& (255 : Int64)) <<< ((40 : Int32) &&& 0x3f).toInt64)))])) rfl rfl (hb hby at_89) _ k) ?_
  show OGo p e below s _ _ _ (T1.setTop (mkF m 90 #[.val (.long q0), .second, .val (.ref b1), .unset, .unset] [(.int (f1e6 q0)), (.long ((((((((f1e0 q0).toInt64) &&& (255 : Int64)) ||| ((((f1e1 q0).toInt64) &&& (255 : Int64)) <<< ((8 : Int32) &&& 0x3f).toInt64)) ||| ((((f1e2 q0).toInt64) &&& (255 : Int64)) <<< ((16 : Int32) &&& 0x3f).toInt64)) ||| ((((f1e3 q0).toInt64) &&& (255 : Int64)) <<< ((24 : Int32) &&& 0x3f).toInt64)) ||| ((((f1e4 q0).toInt64) &&& (255 : Int64)) <<< ((32 : Int32) &&& 0x3f).toInt64)) ||| ((((f1e5 q0).toInt64) &&& (255 : Int64)) <<< ((40 : Int32) &&& 0x3f).toInt64)))]))
  refine OGo.st (fun _ k => XS.i2l X1.here hx rfl (hb hby at_90) rfl k) ?_
  show OGo p e below s _ _ _ (T1.setTop (mkF m 91 #[.val (.long q0), .second, .val (.ref b1), .unset, .unset] [(.long ((f1e6 q0).toInt64)), (.long ((((((((f1e0 q0).toInt64) &&& (255 : Int64)) ||| ((((f1e1 q0).toInt64) &&& (255 : Int64)) <<< ((8 : Int32) &&& 0x3f).toInt64)) ||| ((((f1e2 q0).toInt64) &&& (255 : Int64)) <<< ((16 : Int32) &&& 0x3f).toInt64)) ||| ((((f1e3 q0).toInt64) &&& (255 : Int64)) <<< ((24 : Int32) &&& 0x3f).toInt64)) ||| ((((f1e4 q0).toInt64) &&& (255 : Int64)) <<< ((32 : Int32) &&& 0x3f).toInt64)) ||| ((((f1e5 q0).toInt64) &&& (255 : Int64)) <<< ((40 : Int32) &&& 0x3f).toInt64)))]))
  refine OGo.st (fun _ k => X1.ldc2Long hx hown (mvT hZ (hw _ (List.mem_of_getElem? (i := 5) rfl))) (g := (mkF m 91 #[.val (.long q0), .second, .val (.ref b1), .unset, .unset] [(.long ((f1e6 q0).toInt64)), (.long ((((((((f1e0 q0).toInt64) &&& (255 : Int64)) ||| ((((f1e1 q0).toInt64) &&& (255 : Int64)) <<< ((8 : Int32) &&& 0x3f).toInt64)) ||| ((((f1e2 q0).toInt64) &&& (255 : Int64)) <<< ((16 : Int32) &&& 0x3f).toInt64)) ||| ((((f1e3 q0).toInt64) &&& (255 : Int64)) <<< ((24 : Int32) &&& 0x3f).toInt64)) ||| ((((f1e4 q0).toInt64) &&& (255 : Int64)) <<< ((32 : Int32) &&& 0x3f).toInt64)) ||| ((((f1e5 q0).toInt64) &&& (255 : Int64)) <<< ((40 : Int32) &&& 0x3f).toInt64)))])) rfl (hb hby at_91) _ k) ?_
  show OGo p e below s _ _ _ (T1.setTop (mkF m 94 #[.val (.long q0), .second, .val (.ref b1), .unset, .unset] [(.long (255 : Int64)), (.long ((f1e6 q0).toInt64)), (.long ((((((((f1e0 q0).toInt64) &&& (255 : Int64)) ||| ((((f1e1 q0).toInt64) &&& (255 : Int64)) <<< ((8 : Int32) &&& 0x3f).toInt64)) ||| ((((f1e2 q0).toInt64) &&& (255 : Int64)) <<< ((16 : Int32) &&& 0x3f).toInt64)) ||| ((((f1e3 q0).toInt64) &&& (255 : Int64)) <<< ((24 : Int32) &&& 0x3f).toInt64)) ||| ((((f1e4 q0).toInt64) &&& (255 : Int64)) <<< ((32 : Int32) &&& 0x3f).toInt64)) ||| ((((f1e5 q0).toInt64) &&& (255 : Int64)) <<< ((40 : Int32) &&& 0x3f).toInt64)))]))
  refine OGo.st (fun _ k => XS.land X1.here hx rfl (hb hby at_94) rfl k) ?_
  show OGo p e below s _ _ _ (T1.setTop (mkF m 95 #[.val (.long q0), .second, .val (.ref b1), .unset, .unset] [(.long (((f1e6 q0).toInt64) &&& (255 : Int64))), (.long ((((((((f1e0 q0).toInt64) &&& (255 : Int64)) ||| ((((f1e1 q0).toInt64) &&& (255 : Int64)) <<< ((8 : Int32) &&& 0x3f).toInt64)) ||| ((((f1e2 q0).toInt64) &&& (255 : Int64)) <<< ((16 : Int32) &&& 0x3f).toInt64)) ||| ((((f1e3 q0).toInt64) &&& (255 : Int64)) <<< ((24 : Int32) &&& 0x3f).toInt64)) ||| ((((f1e4 q0).toInt64) &&& (255 : Int64)) <<< ((32 : Int32) &&& 0x3f).toInt64)) ||| ((((f1e5 q0).toInt64) &&& (255 : Int64)) <<< ((40 : Int32) &&& 0x3f).toInt64)))]))
  refine OGo.st (fun _ k => XS.bipush X1.here hx rfl (hb hby at_95) k) ?_
  show OGo p e below s _ _ _ (T1.setTop (mkF m 97 #[.val (.long q0), .second, .val (.ref b1), .unset, .unset] [(.int (48 : Int32)), (.long (((f1e6 q0).toInt64) &&& (255 : Int64))), (.long ((((((((f1e0 q0).toInt64) &&& (255 : Int64)) ||| ((((f1e1 q0).toInt64) &&& (255 : Int64)) <<< ((8 : Int32) &&& 0x3f).toInt64)) ||| ((((f1e2 q0).toInt64) &&& (255 : Int64)) <<< ((16 : Int32) &&& 0x3f).toInt64)) ||| ((((f1e3 q0).toInt64) &&& (255 : Int64)) <<< ((24 : Int32) &&& 0x3f).toInt64)) ||| ((((f1e4 q0).toInt64) &&& (255 : Int64)) <<< ((32 : Int32) &&& 0x3f).toInt64)) ||| ((((f1e5 q0).toInt64) &&& (255 : Int64)) <<< ((40 : Int32) &&& 0x3f).toInt64)))]))
  refine OGo.st (fun _ k => XS.lshl X1.here hx rfl (hb hby at_97) rfl k) ?_
  show OGo p e below s _ _ _ (T1.setTop (mkF m 98 #[.val (.long q0), .second, .val (.ref b1), .unset, .unset] [(.long ((((f1e6 q0).toInt64) &&& (255 : Int64)) <<< ((48 : Int32) &&& 0x3f).toInt64)), (.long ((((((((f1e0 q0).toInt64) &&& (255 : Int64)) ||| ((((f1e1 q0).toInt64) &&& (255 : Int64)) <<< ((8 : Int32) &&& 0x3f).toInt64)) ||| ((((f1e2 q0).toInt64) &&& (255 : Int64)) <<< ((16 : Int32) &&& 0x3f).toInt64)) ||| ((((f1e3 q0).toInt64) &&& (255 : Int64)) <<< ((24 : Int32) &&& 0x3f).toInt64)) ||| ((((f1e4 q0).toInt64) &&& (255 : Int64)) <<< ((32 : Int32) &&& 0x3f).toInt64)) ||| ((((f1e5 q0).toInt64) &&& (255 : Int64)) <<< ((40 : Int32) &&& 0x3f).toInt64)))]))
  refine OGo.st (fun _ k => XS.lor X1.here hx rfl (hb hby at_98) rfl k) ?_
  show OGo p e below s _ _ _ (T1.setTop (mkF m 99 #[.val (.long q0), .second, .val (.ref b1), .unset, .unset] [(.long (((((((((f1e0 q0).toInt64) &&& (255 : Int64)) ||| ((((f1e1 q0).toInt64) &&& (255 : Int64)) <<< ((8 : Int32) &&& 0x3f).toInt64)) ||| ((((f1e2 q0).toInt64) &&& (255 : Int64)) <<< ((16 : Int32) &&& 0x3f).toInt64)) ||| ((((f1e3 q0).toInt64) &&& (255 : Int64)) <<< ((24 : Int32) &&& 0x3f).toInt64)) ||| ((((f1e4 q0).toInt64) &&& (255 : Int64)) <<< ((32 : Int32) &&& 0x3f).toInt64)) ||| ((((f1e5 q0).toInt64) &&& (255 : Int64)) <<< ((40 : Int32) &&& 0x3f).toInt64)) ||| ((((f1e6 q0).toInt64) &&& (255 : Int64)) <<< ((48 : Int32) &&& 0x3f).toInt64)))]))
  refine OGo.st (fun _ k => XS.aloadN X1.here hx rfl (hb hby at_99) rfl rfl k) ?_
  show OGo p e below s _ _ _ (T1.setTop (mkF m 100 #[.val (.long q0), .second, .val (.ref b1), .unset, .unset] [(.ref b1), (.long (((((((((f1e0 q0).toInt64) &&& (255 : Int64)) ||| ((((f1e1 q0).toInt64) &&& (255 : Int64)) <<< ((8 : Int32) &&& 0x3f).toInt64)) ||| ((((f1e2 q0).toInt64) &&& (255 : Int64)) <<< ((16 : Int32) &&& 0x3f).toInt64)) ||| ((((f1e3 q0).toInt64) &&& (255 : Int64)) <<< ((24 : Int32) &&& 0x3f).toInt64)) ||| ((((f1e4 q0).toInt64) &&& (255 : Int64)) <<< ((32 : Int32) &&& 0x3f).toInt64)) ||| ((((f1e5 q0).toInt64) &&& (255 : Int64)) <<< ((40 : Int32) &&& 0x3f).toInt64)) ||| ((((f1e6 q0).toInt64) &&& (255 : Int64)) <<< ((48 : Int32) &&& 0x3f).toInt64)))]))
  refine OGo.st (fun _ k => XS.bipush X1.here hx rfl (hb hby at_100) k) ?_
  show OGo p e below s _ _ _ (T1.setTop (mkF m 102 #[.val (.long q0), .second, .val (.ref b1), .unset, .unset] [(.int (7 : Int32)), (.ref b1), (.long (((((((((f1e0 q0).toInt64) &&& (255 : Int64)) ||| ((((f1e1 q0).toInt64) &&& (255 : Int64)) <<< ((8 : Int32) &&& 0x3f).toInt64)) ||| ((((f1e2 q0).toInt64) &&& (255 : Int64)) <<< ((16 : Int32) &&& 0x3f).toInt64)) ||| ((((f1e3 q0).toInt64) &&& (255 : Int64)) <<< ((24 : Int32) &&& 0x3f).toInt64)) ||| ((((f1e4 q0).toInt64) &&& (255 : Int64)) <<< ((32 : Int32) &&& 0x3f).toInt64)) ||| ((((f1e5 q0).toInt64) &&& (255 : Int64)) <<< ((40 : Int32) &&& 0x3f).toInt64)) ||| ((((f1e6 q0).toInt64) &&& (255 : Int64)) <<< ((48 : Int32) &&& 0x3f).toInt64)))]))
  obtain ⟨cl10, Ar10, q10, Sz10, Nn10, Hs10, Gs10⟩ := id V1
  have hin10 : ¬ ((7 : Int32) < 0 ∨ cl10.slots.size ≤ ((7 : Int32)).toNatClampNeg) := inb_of Sz10 ⟨by decide, by decide⟩
  have hat10 : cl10.slots[((7 : Int32)).toNatClampNeg]? = some (.int (f1e7 q0)) := Hs10.at hin10 rfl
  refine OGo.st (fun _ k => X1.baloadBytes hx (j := (7 : Int32)) (v := (.int (f1e7 q0))) Ar10.1 (State.isArrayOf_alike hZ.alike Ar10.2.1) Ar10.2.2 hin10 hat10 (g := (mkF m 102 #[.val (.long q0), .second, .val (.ref b1), .unset, .unset] [(.int (7 : Int32)), (.ref b1), (.long (((((((((f1e0 q0).toInt64) &&& (255 : Int64)) ||| ((((f1e1 q0).toInt64) &&& (255 : Int64)) <<< ((8 : Int32) &&& 0x3f).toInt64)) ||| ((((f1e2 q0).toInt64) &&& (255 : Int64)) <<< ((16 : Int32) &&& 0x3f).toInt64)) ||| ((((f1e3 q0).toInt64) &&& (255 : Int64)) <<< ((24 : Int32) &&& 0x3f).toInt64)) ||| ((((f1e4 q0).toInt64) &&& (255 : Int64)) <<< ((32 : Int32) &&& 0x3f).toInt64)) ||| ((((f1e5 q0).toInt64) &&& (255 : Int64)) <<< ((40 : Int32) &&& 0x3f).toInt64)) ||| ((((f1e6 q0).toInt64) &&& (255 : Int64)) <<< ((48 : Int32) &&& 0x3f).toInt64)))])) rfl rfl (hb hby at_102) _ k) ?_
  show OGo p e below s _ _ _ (T1.setTop (mkF m 103 #[.val (.long q0), .second, .val (.ref b1), .unset, .unset] [(.int (f1e7 q0)), (.long (((((((((f1e0 q0).toInt64) &&& (255 : Int64)) ||| ((((f1e1 q0).toInt64) &&& (255 : Int64)) <<< ((8 : Int32) &&& 0x3f).toInt64)) ||| ((((f1e2 q0).toInt64) &&& (255 : Int64)) <<< ((16 : Int32) &&& 0x3f).toInt64)) ||| ((((f1e3 q0).toInt64) &&& (255 : Int64)) <<< ((24 : Int32) &&& 0x3f).toInt64)) ||| ((((f1e4 q0).toInt64) &&& (255 : Int64)) <<< ((32 : Int32) &&& 0x3f).toInt64)) ||| ((((f1e5 q0).toInt64) &&& (255 : Int64)) <<< ((40 : Int32) &&& 0x3f).toInt64)) ||| ((((f1e6 q0).toInt64) &&& (255 : Int64)) <<< ((48 : Int32) &&& 0x3f).toInt64)))]))
  refine OGo.st (fun _ k => XS.i2l X1.here hx rfl (hb hby at_103) rfl k) ?_
  show OGo p e below s _ _ _ (T1.setTop (mkF m 104 #[.val (.long q0), .second, .val (.ref b1), .unset, .unset] [(.long ((f1e7 q0).toInt64)), (.long (((((((((f1e0 q0).toInt64) &&& (255 : Int64)) ||| ((((f1e1 q0).toInt64) &&& (255 : Int64)) <<< ((8 : Int32) &&& 0x3f).toInt64)) ||| ((((f1e2 q0).toInt64) &&& (255 : Int64)) <<< ((16 : Int32) &&& 0x3f).toInt64)) ||| ((((f1e3 q0).toInt64) &&& (255 : Int64)) <<< ((24 : Int32) &&& 0x3f).toInt64)) ||| ((((f1e4 q0).toInt64) &&& (255 : Int64)) <<< ((32 : Int32) &&& 0x3f).toInt64)) ||| ((((f1e5 q0).toInt64) &&& (255 : Int64)) <<< ((40 : Int32) &&& 0x3f).toInt64)) ||| ((((f1e6 q0).toInt64) &&& (255 : Int64)) <<< ((48 : Int32) &&& 0x3f).toInt64)))]))
  refine OGo.st (fun _ k => X1.ldc2Long hx hown (mvT hZ (hw _ (List.mem_of_getElem? (i := 5) rfl))) (g := (mkF m 104 #[.val (.long q0), .second, .val (.ref b1), .unset, .unset] [(.long ((f1e7 q0).toInt64)), (.long (((((((((f1e0 q0).toInt64) &&& (255 : Int64)) ||| ((((f1e1 q0).toInt64) &&& (255 : Int64)) <<< ((8 : Int32) &&& 0x3f).toInt64)) ||| ((((f1e2 q0).toInt64) &&& (255 : Int64)) <<< ((16 : Int32) &&& 0x3f).toInt64)) ||| ((((f1e3 q0).toInt64) &&& (255 : Int64)) <<< ((24 : Int32) &&& 0x3f).toInt64)) ||| ((((f1e4 q0).toInt64) &&& (255 : Int64)) <<< ((32 : Int32) &&& 0x3f).toInt64)) ||| ((((f1e5 q0).toInt64) &&& (255 : Int64)) <<< ((40 : Int32) &&& 0x3f).toInt64)) ||| ((((f1e6 q0).toInt64) &&& (255 : Int64)) <<< ((48 : Int32) &&& 0x3f).toInt64)))])) rfl (hb hby at_104) _ k) ?_
  show OGo p e below s _ _ _ (T1.setTop (mkF m 107 #[.val (.long q0), .second, .val (.ref b1), .unset, .unset] [(.long (255 : Int64)), (.long ((f1e7 q0).toInt64)), (.long (((((((((f1e0 q0).toInt64) &&& (255 : Int64)) ||| ((((f1e1 q0).toInt64) &&& (255 : Int64)) <<< ((8 : Int32) &&& 0x3f).toInt64)) ||| ((((f1e2 q0).toInt64) &&& (255 : Int64)) <<< ((16 : Int32) &&& 0x3f).toInt64)) ||| ((((f1e3 q0).toInt64) &&& (255 : Int64)) <<< ((24 : Int32) &&& 0x3f).toInt64)) ||| ((((f1e4 q0).toInt64) &&& (255 : Int64)) <<< ((32 : Int32) &&& 0x3f).toInt64)) ||| ((((f1e5 q0).toInt64) &&& (255 : Int64)) <<< ((40 : Int32) &&& 0x3f).toInt64)) ||| ((((f1e6 q0).toInt64) &&& (255 : Int64)) <<< ((48 : Int32) &&& 0x3f).toInt64)))]))
  refine OGo.st (fun _ k => XS.land X1.here hx rfl (hb hby at_107) rfl k) ?_
  show OGo p e below s _ _ _ (T1.setTop (mkF m 108 #[.val (.long q0), .second, .val (.ref b1), .unset, .unset] [(.long (((f1e7 q0).toInt64) &&& (255 : Int64))), (.long (((((((((f1e0 q0).toInt64) &&& (255 : Int64)) ||| ((((f1e1 q0).toInt64) &&& (255 : Int64)) <<< ((8 : Int32) &&& 0x3f).toInt64)) ||| ((((f1e2 q0).toInt64) &&& (255 : Int64)) <<< ((16 : Int32) &&& 0x3f).toInt64)) ||| ((((f1e3 q0).toInt64) &&& (255 : Int64)) <<< ((24 : Int32) &&& 0x3f).toInt64)) ||| ((((f1e4 q0).toInt64) &&& (255 : Int64)) <<< ((32 : Int32) &&& 0x3f).toInt64)) ||| ((((f1e5 q0).toInt64) &&& (255 : Int64)) <<< ((40 : Int32) &&& 0x3f).toInt64)) ||| ((((f1e6 q0).toInt64) &&& (255 : Int64)) <<< ((48 : Int32) &&& 0x3f).toInt64)))]))
  refine OGo.st (fun _ k => XS.bipush X1.here hx rfl (hb hby at_108) k) ?_
  show OGo p e below s _ _ _ (T1.setTop (mkF m 110 #[.val (.long q0), .second, .val (.ref b1), .unset, .unset] [(.int (56 : Int32)), (.long (((f1e7 q0).toInt64) &&& (255 : Int64))), (.long (((((((((f1e0 q0).toInt64) &&& (255 : Int64)) ||| ((((f1e1 q0).toInt64) &&& (255 : Int64)) <<< ((8 : Int32) &&& 0x3f).toInt64)) ||| ((((f1e2 q0).toInt64) &&& (255 : Int64)) <<< ((16 : Int32) &&& 0x3f).toInt64)) ||| ((((f1e3 q0).toInt64) &&& (255 : Int64)) <<< ((24 : Int32) &&& 0x3f).toInt64)) ||| ((((f1e4 q0).toInt64) &&& (255 : Int64)) <<< ((32 : Int32) &&& 0x3f).toInt64)) ||| ((((f1e5 q0).toInt64) &&& (255 : Int64)) <<< ((40 : Int32) &&& 0x3f).toInt64)) ||| ((((f1e6 q0).toInt64) &&& (255 : Int64)) <<< ((48 : Int32) &&& 0x3f).toInt64)))]))
  refine OGo.st (fun _ k => XS.lshl X1.here hx rfl (hb hby at_110) rfl k) ?_
  show OGo p e below s _ _ _ (T1.setTop (mkF m 111 #[.val (.long q0), .second, .val (.ref b1), .unset, .unset] [(.long ((((f1e7 q0).toInt64) &&& (255 : Int64)) <<< ((56 : Int32) &&& 0x3f).toInt64)), (.long (((((((((f1e0 q0).toInt64) &&& (255 : Int64)) ||| ((((f1e1 q0).toInt64) &&& (255 : Int64)) <<< ((8 : Int32) &&& 0x3f).toInt64)) ||| ((((f1e2 q0).toInt64) &&& (255 : Int64)) <<< ((16 : Int32) &&& 0x3f).toInt64)) ||| ((((f1e3 q0).toInt64) &&& (255 : Int64)) <<< ((24 : Int32) &&& 0x3f).toInt64)) ||| ((((f1e4 q0).toInt64) &&& (255 : Int64)) <<< ((32 : Int32) &&& 0x3f).toInt64)) ||| ((((f1e5 q0).toInt64) &&& (255 : Int64)) <<< ((40 : Int32) &&& 0x3f).toInt64)) ||| ((((f1e6 q0).toInt64) &&& (255 : Int64)) <<< ((48 : Int32) &&& 0x3f).toInt64)))]))
  refine OGo.st (fun _ k => XS.lor X1.here hx rfl (hb hby at_111) rfl k) ?_
  show OGo p e below s _ _ _ (T1.setTop (mkF m 112 #[.val (.long q0), .second, .val (.ref b1), .unset, .unset] [(.long ((((((((((f1e0 q0).toInt64) &&& (255 : Int64)) ||| ((((f1e1 q0).toInt64) &&& (255 : Int64)) <<< ((8 : Int32) &&& 0x3f).toInt64)) ||| ((((f1e2 q0).toInt64) &&& (255 : Int64)) <<< ((16 : Int32) &&& 0x3f).toInt64)) ||| ((((f1e3 q0).toInt64) &&& (255 : Int64)) <<< ((24 : Int32) &&& 0x3f).toInt64)) ||| ((((f1e4 q0).toInt64) &&& (255 : Int64)) <<< ((32 : Int32) &&& 0x3f).toInt64)) ||| ((((f1e5 q0).toInt64) &&& (255 : Int64)) <<< ((40 : Int32) &&& 0x3f).toInt64)) ||| ((((f1e6 q0).toInt64) &&& (255 : Int64)) <<< ((48 : Int32) &&& 0x3f).toInt64)) ||| ((((f1e7 q0).toInt64) &&& (255 : Int64)) <<< ((56 : Int32) &&& 0x3f).toInt64)))]))
  refine OGo.st (fun _ k => XS.lstoreN X1.here hx rfl (hb hby at_112) rfl (l' := #[.val (.long q0), .second, .val (.ref b1), .val (.long (v0_0 q0)), .second]) rfl k) ?_
  show OGo p e below s _ _ _ (T1.setTop (mkF m 113 #[.val (.long q0), .second, .val (.ref b1), .val (.long (v0_0 q0)), .second] []))
  refine OGo.st (fun _ k => XS.lloadN X1.here hx rfl (hb hby at_113) rfl k) ?_
  show OGo p e below s _ _ _ (T1.setTop (mkF m 114 #[.val (.long q0), .second, .val (.ref b1), .val (.long (v0_0 q0)), .second] [(.long (v0_0 q0))]))
  refine OGo.st (fun _ k => XS.lloadN X1.here hx rfl (hb hby at_114) rfl k) ?_
  show OGo p e below s _ _ _ (T1.setTop (mkF m 115 #[.val (.long q0), .second, .val (.ref b1), .val (.long (v0_0 q0)), .second] [(.long q0), (.long (v0_0 q0))]))
  refine OGo.st (fun _ k => XS.lcmp X1.here hx rfl (hb hby at_115) rfl k) ?_
  show OGo p e below s _ _ _ (T1.setTop (mkF m 116 #[.val (.long q0), .second, .val (.ref b1), .val (.long (v0_0 q0)), .second] [(.int (lcmpW (v0_0 q0) q0))]))
  by_cases hc116 : (v0_0 q0) = q0
  · refine OGo.st (fun _ k => XS.ifNo X1.here hx rfl (hb hby at_116) rfl ((if0 _ _).trans (teq ((olc_eq _ _).mpr hc116)).2) k) ?_
    show OGo p e below s _ _ _ (T1.setTop (mkF m 119 #[.val (.long q0), .second, .val (.ref b1), .val (.long (v0_0 q0)), .second] []))
    refine OGo.st (fun _ k => XS.iconst X1.here hx rfl (hb hby at_119) k) ?_
    show OGo p e below s _ _ _ (T1.setTop (mkF m 120 #[.val (.long q0), .second, .val (.ref b1), .val (.long (v0_0 q0)), .second] [(.int (1 : Int32))]))
    refine OGo.st (fun _ k => XS.goto X1.here hx rfl (pc0 := 120) (pc' := 124) rfl (hb hby at_120) (by decide) (by decide) k) ?_
    show OGo p e below s _ _ _ (T1.setTop (mkF m 124 #[.val (.long q0), .second, .val (.ref b1), .val (.long (v0_0 q0)), .second] [(.int (1 : Int32))]))
    exact oretN X1 hx Bd.notSynchronized (t := .boolean) Bd.returns (by simp) (hb hby at_124) (z' := (1 : Int32)) (by decide) rfl ⟨(congrArg (fun z => some (Value.int z)) (show (1 : Int32) = f0 q0 from Eq.symm (by unfold f0; exact if_pos hc116))), N1⟩ (by decide) (by decide)
  · refine OGo.st (fun _ k => XS.ifYes X1.here hx rfl (pc0 := 116) (pc' := 123) rfl (hb hby at_116) rfl ((if0 _ _).trans (feq (fun z => hc116 ((olc_eq _ _).mp z))).2) (by decide) (by decide) k) ?_
    show OGo p e below s _ _ _ (T1.setTop (mkF m 123 #[.val (.long q0), .second, .val (.ref b1), .val (.long (v0_0 q0)), .second] []))
    refine OGo.st (fun _ k => XS.iconst X1.here hx rfl (hb hby at_123) k) ?_
    show OGo p e below s _ _ _ (T1.setTop (mkF m 124 #[.val (.long q0), .second, .val (.ref b1), .val (.long (v0_0 q0)), .second] [(.int (0 : Int32))]))
    exact oretN X1 hx Bd.notSynchronized (t := .boolean) Bd.returns (by simp) (hb hby at_124) (z' := (0 : Int32)) (by decide) rfl ⟨(congrArg (fun z => some (Value.int z)) (show (0 : Int32) = f0 q0 from Eq.symm (by unfold f0; exact if_neg hc116))), N1⟩ (by decide) (by decide)
theorem own_bm8 (a : Int) : ((((a.bmod (2 ^ 32)).bmod (2 ^ 8)).bmod (2 ^ 8)) % 2 ^ 8) = a % 2 ^ 8 := by
  unfold Int.bmod; dsimp only; split <;> split <;> split <;> omega
theorem own_e (w : Int64) : ((nar .byte ((w.toInt32).toInt8.toInt32)).toInt64 &&& (255 : Int64)) = (w &&& (255 : Int64)) := by
  apply Int64.toInt_inj.mp
  have m (x : Int64) : (x &&& (255 : Int64)).toInt = x.toInt % 2 ^ 8 := Jvm.Kit.i64_mask x 255 (by decide) (by decide)
  rw [m, m]
  show ((w.toInt32.toInt8.toInt32.toInt8.toInt32).toInt64).toInt % 2 ^ 8 = _
  rw [Int32.toInt_toInt64, Int8.toInt_toInt32, Int32.toInt_toInt8, Int8.toInt_toInt32, Int32.toInt_toInt8, Int64.toInt_toInt32]
  exact own_bm8 _
theorem own_m (x : BitVec 64) (k : Nat) (M : BitVec 64) (h : (255#64 <<< k) = M) : (((x >>> k) &&& 255#64) <<< k) = x &&& M := by
  subst h
  apply BitVec.eq_of_getLsbD_eq
  intro i hi
  simp only [BitVec.getLsbD_shiftLeft, BitVec.getLsbD_and, BitVec.getLsbD_ushiftRight]
  by_cases h : i < k
  · simp [h]
  · have : k + (i - k) = i := by omega
    simp [h, hi, this]
theorem own_sh (x : Int64) (k : Nat) (n : UInt64) (h : n.toNat % 64 = k) : ((x.toUInt64 >>> n).toInt64).toBitVec = x.toBitVec >>> k := by
  subst h
  show (x.toUInt64 >>> n).toBitVec = _
  rw [UInt64.toBitVec_shiftRight]
  apply BitVec.eq_of_toNat_eq
  simp
theorem own_shl (x : Int64) (k : Nat) (n : Int64) (h : (n.toBitVec.smod 64).toNat = k) : (x <<< n).toBitVec = x.toBitVec <<< k := by
  subst h
  rw [Int64.toBitVec_shiftLeft]
  rfl
theorem own_plain (q0 : Int64) : f0 q0 = 1 := by
  have e : v0_0 q0 = q0 := by
    unfold v0_0 f1e0 f1e1 f1e2 f1e3 f1e4 f1e5 f1e6 f1e7
    simp only [own_e]
    apply Int64.toBitVec_inj.mp
    simp only [Int64.toBitVec_or, Int64.toBitVec_and]
    rw [own_shl _ 8 _ (by decide), own_shl _ 16 _ (by decide), own_shl _ 24 _ (by decide), own_shl _ 32 _ (by decide), own_shl _ 40 _ (by decide), own_shl _ 48 _ (by decide), own_shl _ 56 _ (by decide)]
    simp only [Int64.toBitVec_and]
    rw [own_sh _ 0 _ (by decide), own_sh _ 8 _ (by decide), own_sh _ 16 _ (by decide), own_sh _ 24 _ (by decide), own_sh _ 32 _ (by decide), own_sh _ 40 _ (by decide), own_sh _ 48 _ (by decide), own_sh _ 56 _ (by decide)]
    have k : (255 : Int64).toBitVec = 255#64 := by decide
    rw [k]
    rw [own_m _ 8 0xff00#64 (by decide), own_m _ 16 0xff0000#64 (by decide), own_m _ 24 0xff000000#64 (by decide), own_m _ 32 0xff00000000#64 (by decide), own_m _ 40 0xff0000000000#64 (by decide), own_m _ 48 0xff000000000000#64 (by decide), own_m _ 56 0xff00000000000000#64 (by decide), BitVec.ushiftRight_zero]
    simp only [← BitVec.and_or_distrib_left]
    have z : (255#64 ||| 0xff00#64 ||| 0xff0000#64 ||| 0xff000000#64 ||| 0xff00000000#64 ||| 0xff0000000000#64 ||| 0xff000000000000#64 ||| 0xff00000000000000#64) = BitVec.allOnes 64 := by decide
    rw [z, BitVec.and_allOnes]
  unfold f0; rw [if_pos e]
set_option maxRecDepth 65536 in
set_option maxHeartbeats 40000000 in
theorem comes_1 {Post : Tables → Env → Array Value → State → Outcome → State → Prop} (hpost : ∀ tb e args s v u, (limb_1_1.after args s (.returned v) u = true ∧ limb_1_2.after args s (.returned v) u = true ∧ True) → FrameEnd s (.returned v) u (Jvm.fieldLocs frame_1_writes args s ++ Jvm.arrayLocs frame_1_arrays args s ++ Jvm.staticLocs frame_1_statics s) 16 128 → Post tb e args s (.returned v) u) :
    ArmFor flags0 classFile x code maxLocals ret World_1 tables_1 room_1 Calls_1 rest_1 Pre_1 Post := by
  intro l hfl _ _ p e ha hc hk s m args below hf hA hF happ hP
  obtain ⟨hcalls, hrest, hpre⟩ := hP
  obtain ⟨-, -, -, hnamed, -, -, -, hat⟩ := (Spec.applies_iff hf).mp happ
  obtain ⟨hg, hn⟩ := and_e (Cond.before_iff.mp (show (Jvm.Cond.and given_1 narrow_1).before args s = true from hpre))
  obtain ⟨gv1, gv2⟩ := and_e hg
  obtain ⟨w0, rfl⟩ : ∃ w0 : Value, args = #[w0] := by
    have hs : args.size = 1 := by simpa [Cond.value, given_1] using gv1
    obtain ⟨L⟩ := args
    match L, hs with
    | [w0], _ => exact ⟨w0, rfl⟩
  have hw := fun d (hd : d ∈ tables_1) => atoms_spec (ws := Jvm.Cond.code x code maxLocals ret :: tables_1) hat d (List.mem_cons_of_mem _ hd)
  have hfit : Fit s := fun {y c} hc i hi => by
    obtain ⟨ha, rfl⟩ := Array.getElem?_eq_some_iff.mp hc
    have q := List.all_eq_true.mp ((Array.all_eq_true_iff_forall_mem.mp hF) _ (Array.getElem_mem ha)) i (List.mem_range.mpr hi)
    simpa [Array.getElem?_eq_getElem hi] using q
  obtain ⟨i0, ei0⟩ := isL_v gv2
  obtain rfl : w0 = (.long i0) := Option.some.inj ei0
  have hpl := own_plain i0
  obtain ⟨n, o, h1, h2, h3, _, L, rfl, ⟨rfl, N⟩, hq⟩ := rm0 l s _ hw tables_1 i0 s.heap s.heap.size (Nat.le_refl _) p e ha hc hk s m _ below hf ((Spec.applies_iff_loose hf).mp happ).1 ⟨rfl, State.Warmed39.refl s, rfl⟩ trivial
  refine ⟨n, _, h1, h2, h3, hpost _ _ _ _ _ _ ⟨Cond.after_iff.mpr rfl, Cond.after_iff.mpr (eq_i res_at (Term.int_eval (1)) (congrArg Value.int hpl)), trivial⟩ ⟨hq.1, hq.2.1, (hq.2.2.sift fun y hy => Or.inr (N y hy)).mono (by decide) (by decide)⟩⟩
theorem main_1_1 : Claimed_1_1 := comes_1 fun _ _ _ _ _ _ h hF => ⟨h.1, hF⟩
theorem main_1_2 : Claimed_1_2 := comes_1 fun _ _ _ _ _ _ h hF => ⟨h.2.1, hF⟩
end Jvm.Pilot.@@N@@
namespace Jvm.Pilot.@@N@@
open Jvm Jvm.ClassFile Sem Op Lib Jvm.Free Jvm.Stand Jvm.Pilot.@@N@@.Jvm.D
/-! MADE BY PROGRAM (witnessworld.py) out of the Statement's table words and the real class files: 9 classes; the members and pool entries that the words name. The judged class is class 1, her method 1. -/
namespace start1
open Jvm.ClassFile
def u (s : String) : CpInfo := .utf8 (stringToUtf16 s)
/-- a pool by its gaps: so many unusable entries, then the entry; so many at the end -/
def gap : Nat → List CpInfo → List CpInfo
  | 0, r => r
  | n + 1, r => .unusable :: gap n r
def poolList (es : List (Nat × CpInfo)) (last : Nat) : List CpInfo := es.foldr (fun e r => gap e.1 (e.2 :: r)) (gap last [])
def pool (es : List (Nat × CpInfo)) (last : Nat) : Array CpInfo := ⟨poolList es last⟩
def fileOf (pool : Array CpInfo) (this : Nat) (attrs : Array Attribute := #[]) (ms : Array MethodInfo := #[]) (fl : Nat := 33) (sup : Nat := 0) (ifs : Array Nat := #[]) (fds : Array FieldInfo := #[]) : ClassFile where
  minorVersion := 0
  majorVersion := 65
  constantPool := pool
  accessFlags := fl
  thisClass := this
  superClass := sup
  interfaces := ifs
  fields := fds
  methods := ms
  attributes := attrs
def plain (name : String) (sup : Option ClassId) : Class where
  name := name
  kind := .ordinary
  loader := none
  accessFlags := 33
  super := sup
  interfaces := #[]
  cf := none
  fields := #[]
  methods := #[]
  instanceTypes := #[]
  staticTypes := #[]
  resolved := #[]
  callSites := []
  init := .initialized
  statics := none
  mirror := none

def pool0 : Array CpInfo := pool [(5, u "<init>"), (0, u "()V"), (1, .class_ 10), (1, u "java/lang/Object")] 113

def k0m0 : Method := { name := "<init>", desc := "()V", sig := { parameters := [], returnType := none }, accessFlags := 1, code := none }
/-- java/lang/Object -/
def k0 : Class := { plain "java/lang/Object" none with
  accessFlags := 33
  interfaces := #[]
  cf := some (fileOf pool0 8 #[] #[{ accessFlags := 1, nameIndex := 5, descriptorIndex := 6, attributes := #[] }] 33 0 #[] #[])
  fields := #[]
  methods := #[k0m0]
  instanceTypes := #[]
  staticTypes := #[]
  resolved := Array.replicate 124 none
  statics := none }

def pool1 : Array CpInfo := pool [(2, .class_ 4), (1, u "java/lang/Object"), (0, u "<init>"), (0, u "()V"), (0, .methodref 8 9), (0, .class_ 10), (0, .nameAndType 11 12), (0, u "com/example/hazy_set/hazyset/Elements"), (0, u "ofWholeNumber"), (0, u "(J)[B"), (0, .long 255), (1, .class_ 16), (0, u "com/example/hazy_set/hazyset/ElementsOfWholeNumberPinLaw"), (2, u "law"), (0, u "(J)Z")] 5

def k1m0 : Method := { name := "<init>", desc := "()V", sig := { parameters := [], returnType := none }, accessFlags := 2, code := none }
def k1c1 : Code := { maxStack := 6, maxLocals := 5, code := code, exceptionTable := #[], attributes := #[] }
def k1m1 : Method := { name := "law", desc := "(J)Z", sig := { parameters := [.long], returnType := some .boolean }, accessFlags := 9, code := some k1c1 }
/-- com/example/hazy_set/hazyset/ElementsOfWholeNumberPinLaw -/
def k1 : Class := { plain "com/example/hazy_set/hazyset/ElementsOfWholeNumberPinLaw" (some 0) with
  accessFlags := 49
  interfaces := #[]
  cf := some (fileOf pool1 15 #[] #[{ accessFlags := 2, nameIndex := 5, descriptorIndex := 6, attributes := #[] }, { accessFlags := 9, nameIndex := 19, descriptorIndex := 20, attributes := #[] }] 49 2 #[] #[])
  fields := #[]
  methods := #[k1m0, k1m1]
  instanceTypes := #[]
  staticTypes := #[]
  resolved := Array.replicate 26 none
  statics := none }

def pool2 : Array CpInfo := pool [(4, .class_ 6), (1, u "java/lang/Object"), (0, u "<init>"), (0, u "()V"), (23, .class_ 34), (1, u "com/example/hazy_set/hazyset/Elements"), (27, u "MAX_BYTES"), (0, u "I"), (4, u "ofWholeNumber"), (0, u "(J)[B")] 22

def k2m0 : Method := { name := "<init>", desc := "()V", sig := { parameters := [], returnType := none }, accessFlags := 2, code := none }
def k2c1 : Code := { maxStack := 6, maxLocals := 4, code := prog_9_method_2_code, exceptionTable := #[], attributes := #[] }
def k2m1 : Method := { name := "ofWholeNumber", desc := "(J)[B", sig := { parameters := [.long], returnType := some (.array .byte) }, accessFlags := 8, code := some k2c1 }
/-- com/example/hazy_set/hazyset/Elements -/
def k2 : Class := { plain "com/example/hazy_set/hazyset/Elements" (some 0) with
  accessFlags := 48
  interfaces := #[]
  cf := some (fileOf pool2 32 #[] #[{ accessFlags := 2, nameIndex := 7, descriptorIndex := 8, attributes := #[] }, { accessFlags := 8, nameIndex := 68, descriptorIndex := 69, attributes := #[] }] 48 4 #[] #[{ accessFlags := 24, nameIndex := 62, descriptorIndex := 63, attributes := #[] }])
  fields := #[{ name := "MAX_BYTES", type := .int, accessFlags := 24, slot := 0, constantValue := 0 }]
  methods := #[k2m0, k2m1]
  instanceTypes := #[]
  staticTypes := #[.int]
  resolved := Array.replicate 92 none
  statics := none }

def pool3 : Array CpInfo := pool [(1, u "java/lang/Cloneable"), (0, .class_ 1), (0, u "java/lang/Object"), (0, .class_ 3)] 3

/-- java/lang/Cloneable -/
def k3 : Class := { plain "java/lang/Cloneable" (some 0) with
  accessFlags := 1537
  interfaces := #[]
  cf := some (fileOf pool3 2 #[] #[] 1537 4 #[] #[])
  fields := #[]
  methods := #[]
  instanceTypes := #[]
  staticTypes := #[]
  resolved := Array.replicate 8 none
  statics := none }

def pool4 : Array CpInfo := pool [(1, u "java/io/Serializable"), (0, .class_ 1), (0, u "java/lang/Object"), (0, .class_ 3)] 3

/-- java/io/Serializable -/
def k4 : Class := { plain "java/io/Serializable" (some 0) with
  accessFlags := 1537
  interfaces := #[]
  cf := some (fileOf pool4 2 #[] #[] 1537 4 #[] #[])
  fields := #[]
  methods := #[]
  instanceTypes := #[]
  staticTypes := #[]
  resolved := Array.replicate 8 none
  statics := none }

/-- the primitive byte -/
def k5 : Class := { plain "byte" none with kind := .primitive 'B', accessFlags := 0x411 }
/-- [B -/
def k6 : Class := { plain "[B" (some 0) with kind := .array 5 .byte, interfaces := #[3, 4], accessFlags := 1041 }

/-- the primitive int -/
def k7 : Class := { plain "int" none with kind := .primitive 'I', accessFlags := 0x411 }
/-- [I -/
def k8 : Class := { plain "[I" (some 0) with kind := .array 7 .int, interfaces := #[3, 4], accessFlags := 1041 }

def heap : Heap := #[]
def classes : Array Class := #[k0, k1, k2, k3, k4, k5, k6, k7, k8]
def interned : List (Array UInt16 × Addr) := []
def slotsUsed : Nat := 0
def theMethod : MethodId := ⟨1, 1⟩
def args0 : Array Value := #[.long 5]
def aboutOver (below : List Frame) : State where
  vm := { classes := classes, interned := interned.toArray }
  heap := heap
  slotsUsed := slotsUsed
  threads := #[{ frames := .invoking theMethod args0 :: below }]
def below0 : List Frame := [.native { method := ⟨0, 0⟩, args := #[] }]
def about1 : State := aboutOver below0
def p0 : Program := .bare "" "" ""
def e0 : Env := launch0.env 0 0 0
theorem w_frames : about1.frames = Frame.invoking theMethod args0 :: below0 := rfl
set_option maxRecDepth 65536 in
theorem w_args : argsFit about1.vm theMethod args0 = true := by decide +kernel
set_option maxRecDepth 65536 in
theorem w_heap : heapFits about1 = true := by decide +kernel
set_option maxRecDepth 65536 in
theorem w_runnable : about1.curStatus? = some .runnable := by decide +kernel
set_option maxRecDepth 65536 in
theorem w_alone : about1.alone = true := by decide +kernel
set_option maxRecDepth 65536 in
theorem w_named : about1.methodNamed? x = some theMethod := by decide +kernel
set_option maxRecDepth 65536 in
theorem w_hears : about1.hears theMethod below0 = true := by decide +kernel
set_option maxRecDepth 65536 in
theorem w_ripe : about1.ripe theMethod args0 below0 = true := by decide +kernel
theorem w_running : about1.status = .running := rfl
set_option maxRecDepth 65536 in
theorem w_room : about1.hasRoom e0.platform room_1 = true :=
  launch0.hasRoom_least _ room_1 (by decide +kernel) (by decide +kernel) (by decide +kernel) (by decide +kernel) (by decide +kernel) (by decide +kernel)
theorem allAtoms_all (ts : List Jvm.Cond) (a : Array Jvm.Value) (st : Jvm.State) : (allAtoms ts).before a st = ts.all (fun c => c.before a st) := by
  induction ts with
  | nil => rfl
  | cons c t ih =>
    show (Jvm.Cond.and c (allAtoms t)).before a st = _
    rw [Jvm.Cond.before_and, ih, List.all_cons]
def words1 : List Jvm.Cond := Jvm.Cond.code x code maxLocals ret :: tables_1
/-- a 'code' word, met by the world's own term for the bytes: nothing is compared byte by byte -/
theorem code_word {y : MethodName} {bytes : ByteArray} {mx : Nat} {rt : Option FieldType} {a : Array Value} {s : State} {m : MethodId} {meth : Method} {c : Code} (h1 : s.methodNamed? y = some m) (h2 : s.vm.method? m = some meth) (h3 : meth.code = some c) (h4 : c.code = bytes)
    (h5 : (c.maxLocals == mx && c.exceptionTable.isEmpty && decide (c.maxStack ≤ mostOperands) && decide (meth.sig.returnType = rt) && !meth.locks && decide (parseMethodDescriptor y.desc = some meth.sig)) = true) : (Jvm.Cond.code y bytes mx rt).before a s = true := by
  simp only [Bool.and_eq_true, beq_iff_eq, Bool.not_eq_true', decide_eq_true_eq] at h5
  obtain ⟨⟨⟨⟨⟨g1, g2⟩, g3⟩, g4⟩, g5⟩, g6⟩ := h5
  simp [Cond.before, Cond.holds, Cond.value, h1, h2, h3, h4, g1, g2, g3, g4, g5, g6]
def isCode : Jvm.Cond → Bool
  | .code _ _ _ _ => true
  | _ => false
theorem all_split {L : List Jvm.Cond} {P : Jvm.Cond → Bool} (h1 : L.all (fun c => isCode c || P c) = true) (h2 : ∀ c ∈ L.filter isCode, P c = true) : L.all P = true := by
  refine List.all_eq_true.mpr fun c hc => ?_
  have h := List.all_eq_true.mp h1 c hc
  rcases Bool.eq_false_or_eq_true (isCode c) with hi | hi
  · exact h2 c (List.mem_filter.mpr ⟨hc, hi⟩)
  · simpa [hi] using h
set_option maxRecDepth 65536 in
theorem w_c0 : (Jvm.Cond.code x code maxLocals ret).before args0 about1 = true := code_word (m := ⟨1, 1⟩) (meth := k1m1) (c := k1c1) (by decide +kernel) rfl rfl rfl (by decide +kernel)
set_option maxRecDepth 65536 in
theorem w_c1 : (Jvm.Cond.code ({ cls := "com/example/hazy_set/hazyset/Elements", name := "ofWholeNumber", desc := "(J)[B" } : Jvm.MethodName) prog_9_method_2_code (4 : Nat) (Option.some (Jvm.ClassFile.FieldType.array Jvm.ClassFile.FieldType.byte))).before args0 about1 = true := code_word (m := ⟨2, 1⟩) (meth := k2m1) (c := k2c1) (by decide +kernel) rfl rfl rfl (by decide +kernel)
def codes1 : List Jvm.Cond := [Jvm.Cond.code x code maxLocals ret, Jvm.Cond.code ({ cls := "com/example/hazy_set/hazyset/Elements", name := "ofWholeNumber", desc := "(J)[B" } : Jvm.MethodName) prog_9_method_2_code (4 : Nat) (Option.some (Jvm.ClassFile.FieldType.array Jvm.ClassFile.FieldType.byte))]
set_option maxRecDepth 65536 in
theorem codes_eq : words1.filter isCode = codes1 := rfl
theorem w_codes : ∀ c ∈ words1.filter isCode, c.before args0 about1 = true := by
  rw [codes_eq]
  intro c hc
  simp only [codes1, List.mem_cons, List.not_mem_nil, or_false] at hc
  rcases hc with rfl | rfl
  · exact w_c0
  · exact w_c1
set_option maxRecDepth 65536 in
theorem w_t1 : words1.all (fun c => isCode c || c.before args0 about1) = true := by decide +kernel
theorem w_tables : (allAtoms (Jvm.Cond.code x code maxLocals ret :: tables_1)).before args0 about1 = true := by
  rw [allAtoms_all]
  show words1.all (fun c => c.before args0 about1) = true
  refine all_split ?_ w_codes
  rw [w_t1]
set_option maxRecDepth 65536 in
theorem w_case : (Jvm.Cond.and given_1 narrow_1).before args0 about1 = true := by decide +kernel
theorem w_applies : (headSpec (Jvm.Cond.code x code maxLocals ret :: tables_1) room_1).applies x e0.platform about1 = true :=
  (Spec.applies_iff w_frames).mpr ⟨w_running, w_runnable, w_alone, w_named, w_hears, w_ripe, w_room, w_tables⟩
theorem atStart : AtStart classFile x code maxLocals ret World_1 tables_1 room_1 Calls_1 rest_1 Pre_1 launch0 p0 e0 about1 theMethod args0 below0 :=
  ⟨lists_1, trivial, launch0.admits_env _ _ _, launch0.least_env, fairChoices_fair.cas, fairChoices_fair.clock, w_frames, w_args, w_heap, w_applies, trivial, trivial, w_case⟩
end start1
theorem witness_1 : WitnessClaimed_1 := ⟨start1.p0, start1.e0, start1.about1, start1.theMethod, start1.args0, start1.below0, start1.atStart⟩
end Jvm.Pilot.@@N@@
