import JvmDerived
import JvmDerived.Pilot.@@N@@Statement
import JvmDerived.Pilot.@@N@@Code
set_option linter.unusedVariables false
set_option linter.unusedSimpArgs false
@@BLOCK:NumsL.lean.txt@@
namespace Jvm.RoadKit
open Sem ClassFile Op Lib Jvm.Stand Jvm.Free Jvm.LawKit
section Own
variable {p : Program} {l : Launch} {e : Env} {R : Room} {s : State} {m : MethodId} {args : Array Value} {below : List Frame} {meth : Method} {c : Code} {T : State} {locs : List Loc} {cells slots : Nat}
/-- from t the run ends in a return of which Q holds -/
def OGo (p : Program) (e : Env) (below : List Frame) (s : State) (Q : Option Value → Heap → List Loc → Prop) (C N : Nat) (t : State) : Prop :=
  ∃ s₂ o, Steps p.tables e below t s₂ ∧ s₂.status = .running ∧ Ended s₂ below o ∧ ∃ v L, o = .returned v ∧ Q v s₂.heap L ∧ FrameEnd s o s₂ L C N
theorem OGo.st {Q : Option Value → Heap → List Loc → Prop} {C N : Nat} {t t' : State} (k : ∀ target, Steps p.tables e below t' target → Steps p.tables e below t target) (h : OGo p e below s Q C N t') : OGo p e below s Q C N t := by
  obtain ⟨s₂, o, a, r⟩ := h; exact ⟨s₂, o, k _ a, r⟩
theorem oretW {Q : Option Value → Heap → List Loc → Prop} {C N : Nat} (X : Stand p l e R s m args below meth c T locs cells slots) (hx : p.tables.exec = Jvm.exec) (hlk : meth.locks = false) {pc : Nat} {Ls : Array Slot} {w : Value} {t : FieldType} {i : Instr} {rest : List Value} (hret : meth.sig.returnType = some t) (hn : narrow t w = w)
    (hi : (i = .ireturn ∧ (t = .int ∨ t = .boolean ∨ t = .byte ∨ t = .char ∨ t = .short) ∧ ∃ z, w = .int z) ∨ (i = .lreturn ∧ t = .long ∧ ∃ z, w = .long z) ∨ (i = .dreturn ∧ t = .double ∧ ∃ z, w = .double z) ∨ (i = .freturn ∧ t = .float ∧ ∃ z, w = .float z) ∨ (i = .areturn ∧ t.isReference = true ∧ w.isRef = true))
    (hd : decode c.code pc = .ok (i, 1)) {h : Heap} (hh : T.heap = h) (hq : Q (some w) h locs) (hC : cells ≤ C) (hN : slots ≤ N) : OGo p e below s Q C N (T.setTop (mkF m pc Ls (w :: rest))) := by
  obtain ⟨fs, hr, hrun, hended, hW, hsame⟩ := X.leave (v := some w) (fun h => by rw [hret] at h; cases h) hlk
  exact ⟨_, _, retOut X hx hret hn hi hd hr, hrun, hended, _, _, rfl, hh ▸ hq, ⟨_, rfl⟩, hW, hsame.mono hC hN⟩
theorem oretI {Q : Option Value → Heap → List Loc → Prop} {C N : Nat} (X : Stand p l e R s m args below meth c T locs cells slots) (hx : p.tables.exec = Jvm.exec) (hlk : meth.locks = false) {pc : Nat} {Ls : Array Slot} {z : Int32} {rest : List Value} (hret : meth.sig.returnType = some .int)
    (hd : decode c.code pc = .ok (.ireturn, 1)) {h : Heap} (hh : T.heap = h) (hq : Q (some (.int z)) h locs) (hC : cells ≤ C) (hN : slots ≤ N) : OGo p e below s Q C N (T.setTop (mkF m pc Ls (.int z :: rest))) :=
  oretW X hx hlk hret rfl (Or.inl ⟨rfl, Or.inl rfl, _, rfl⟩) hd hh hq hC hN
theorem oretJ {Q : Option Value → Heap → List Loc → Prop} {C N : Nat} (X : Stand p l e R s m args below meth c T locs cells slots) (hx : p.tables.exec = Jvm.exec) (hlk : meth.locks = false) {pc : Nat} {Ls : Array Slot} {z : Int64} {rest : List Value} (hret : meth.sig.returnType = some .long)
    (hd : decode c.code pc = .ok (.lreturn, 1)) {h : Heap} (hh : T.heap = h) (hq : Q (some (.long z)) h locs) (hC : cells ≤ C) (hN : slots ≤ N) : OGo p e below s Q C N (T.setTop (mkF m pc Ls (.long z :: rest))) :=
  oretW X hx hlk hret rfl (Or.inr (Or.inl ⟨rfl, rfl, _, rfl⟩)) hd hh hq hC hN
theorem onarR {t : FieldType} {w : Value} (ht : t.isReference = true) (hw : w.isRef = true) : narrow t w = w := by
  cases t <;> first | (cases ht; done) | (cases w <;> first | rfl | (cases hw; done))
theorem ofitR {t : FieldType} {w : Value} (ht : t.isReference = true) (hw : w.isRef = true) : fits t w = true := by
  cases t <;> first | (cases ht; done) | (cases w <;> first | rfl | (cases hw; done))
theorem oretA {Q : Option Value → Heap → List Loc → Prop} {C N : Nat} (X : Stand p l e R s m args below meth c T locs cells slots) (hx : p.tables.exec = Jvm.exec) (hlk : meth.locks = false) {pc : Nat} {Ls : Array Slot} {w : Value} {t : FieldType} {rest : List Value} (hret : meth.sig.returnType = some t) (ht : t.isReference = true) (hw : w.isRef = true)
    (hd : decode c.code pc = .ok (.areturn, 1)) {h : Heap} (hh : T.heap = h) (hq : Q (some w) h locs) (hC : cells ≤ C) (hN : slots ≤ N) : OGo p e below s Q C N (T.setTop (mkF m pc Ls (w :: rest))) :=
  oretW X hx hlk hret (onarR ht hw) (Or.inr (Or.inr (Or.inr (Or.inr ⟨rfl, ht, hw⟩)))) hd hh hq hC hN
theorem oretN {Q : Option Value → Heap → List Loc → Prop} {C N : Nat} (X : Stand p l e R s m args below meth c T locs cells slots) (hx : p.tables.exec = Jvm.exec) (hlk : meth.locks = false) {pc : Nat} {Ls : Array Slot} {z z' : Int32} {t : FieldType} {rest : List Value} (hret : meth.sig.returnType = some t) (ht : t = .boolean ∨ t = .byte ∨ t = .char ∨ t = .short)
    (hd : decode c.code pc = .ok (.ireturn, 1)) (hz : nar t z = z') {h : Heap} (hh : T.heap = h) (hq : Q (some (.int z')) h locs) (hC : cells ≤ C) (hN : slots ≤ N) : OGo p e below s Q C N (T.setTop (mkF m pc Ls (.int z :: rest))) := by
  subst hz
  obtain ⟨fs, hr, hrun, hended, hW, hsame⟩ := X.leave (v := some (.int (nar t z))) (fun h => by rw [hret] at h; cases h) hlk
  exact ⟨_, _, retN X hx hret ht hd hr, hrun, hended, _, _, rfl, hh ▸ hq, ⟨_, rfl⟩, hW, hsame.mono hC hN⟩
theorem oret0 {Q : Option Value → Heap → List Loc → Prop} {C N : Nat} (X : Stand p l e R s m args below meth c T locs cells slots) (hx : p.tables.exec = Jvm.exec) (hlk : meth.locks = false) {pc : Nat} {Ls : Array Slot} (hret : meth.sig.returnType = none)
    (hd : decode c.code pc = .ok (.return_, 1)) {h : Heap} (hh : T.heap = h) (hq : Q none h locs) (hC : cells ≤ C) (hN : slots ≤ N) : OGo p e below s Q C N (T.setTop (mkF m pc Ls [])) := by
  obtain ⟨fs, hr, hrun, hended, hW, hsame⟩ := X.leave (v := none) (fun _ => rfl) hlk
  exact ⟨_, _, X.returnOut hx hret hd hr, hrun, hended, _, _, rfl, hh ▸ hq, ⟨_, rfl⟩, hW, hsame.mono hC hN⟩
theorem olrem {tb : Tables} [Ours tb] {target : State} {g : JFrame} (h : At T m c below) (hx : tb.exec = Jvm.exec) (hg : g.method = m) {x y : Int64} {rest : List Value} (hd : decode c.code g.pc = .ok (.lrem, 1)) (hs : g.stack = .long y :: .long x :: rest) (hy : y ≠ 0)
    (hr : Steps tb e below (T.setTop { g with pc := g.pc + 1, stack := .long (x % y) :: rest }) target) : Steps tb e below (T.setTop g) target :=
  XS.lrem h hx hg hd hs hy (by rw [lrem_mod]; exact hr)
theorem olc_lt (x y : Int64) : lcmpW x y < 0 ↔ x < y := by rw [lcW]; exact lc_lt x y
theorem olc_gt (x y : Int64) : 0 < lcmpW x y ↔ y < x := by rw [lcW]; exact lc_gt x y
theorem olc_eq (x y : Int64) : lcmpW x y = 0 ↔ x = y := by rw [lcW]; exact lc_eq x y
theorem onilP {v : Int} : ∀ q ∈ ([] : List (Int × Int)), q.1 ≠ v := fun _ q => nomatch q
theorem oconsP {v a b : Int} {l : List (Int × Int)} (h : a ≠ v) (t : ∀ q ∈ l, q.1 ≠ v) : ∀ q ∈ (a, b) :: l, q.1 ≠ v := fun q hq => (List.mem_cons.mp hq).elim (fun u => by rw [u]; exact h) (t q)
theorem oint_ne {z k : Int32} {K : Int} (h : ¬ z = k) (hk : k.toInt = K) : K ≠ z.toInt := fun q => h (Int32.toInt_inj.mp (by rw [hk, q]))
theorem ofld_eq {Z : State} {t : Term} {C n d : String} {a : Addr} {k : Int32} (h : (Cond.eq (Term.field t C n d) (Term.int k)).value args Z none Z [] = some true) (ev : t.eval args Z none [] Z = some (.ref a)) : Fld Z Z.heap a C n d (.int k) := by
  apply Fld.start
  have q := fld_at (args := args) (first := Z) (o := none) (idx := []) (s := Z) (C := C) (n := n) (dd := d) ev
  simp only [Cond.value, q, Term.int_eval] at h
  cases hv : Z.fieldOf? a C n d with
  | none => simp [hv] at h
  | some v => cases v <;> simp [hv] at h <;> simp [h]
section Imp
variable {E a b : Int32}
theorem oLL (h : E < a) (k : a.toInt ≤ b.toInt) : E < b := by rw [Int32.lt_iff_toInt_lt] at *; omega
theorem oLnG (h : E < a) (k : a.toInt ≤ b.toInt + 1) : ¬ b < E := by rw [Int32.lt_iff_toInt_lt] at *; omega
theorem oLnE (h : E < a) (k : a.toInt ≤ b.toInt) : ¬ E = b := fun q => by subst q; rw [Int32.lt_iff_toInt_lt] at h; omega
theorem oGG (h : a < E) (k : b.toInt ≤ a.toInt) : b < E := by rw [Int32.lt_iff_toInt_lt] at *; omega
theorem oGnL (h : a < E) (k : b.toInt ≤ a.toInt + 1) : ¬ E < b := by rw [Int32.lt_iff_toInt_lt] at *; omega
theorem oGnE (h : a < E) (k : b.toInt ≤ a.toInt) : ¬ E = b := fun q => by subst q; rw [Int32.lt_iff_toInt_lt] at h; omega
theorem onLnL (h : ¬ E < a) (k : b.toInt ≤ a.toInt) : ¬ E < b := by rw [Int32.lt_iff_toInt_lt] at *; omega
theorem onLG (h : ¬ E < a) (k : b.toInt < a.toInt) : b < E := by rw [Int32.lt_iff_toInt_lt] at *; omega
theorem onLnE (h : ¬ E < a) (k : b.toInt < a.toInt) : ¬ E = b := fun q => by subst q; rw [Int32.lt_iff_toInt_lt] at h; omega
theorem onGnG (h : ¬ a < E) (k : a.toInt ≤ b.toInt) : ¬ b < E := by rw [Int32.lt_iff_toInt_lt] at *; omega
theorem onGL (h : ¬ a < E) (k : a.toInt < b.toInt) : E < b := by rw [Int32.lt_iff_toInt_lt] at *; omega
theorem onGnE (h : ¬ a < E) (k : a.toInt < b.toInt) : ¬ E = b := fun q => by subst q; rw [Int32.lt_iff_toInt_lt] at h; omega
end Imp
end Own
end Jvm.RoadKit
namespace Jvm.RoadKit
open Sem ClassFile Op Lib Jvm.Stand Jvm.Free Jvm.LawKit
section OwnArr
variable {p : Program} {l : Launch} {e : Env} {R : Room} {s : State} {m : MethodId} {args : Array Value} {below : List Frame} {meth : Method} {c : Code} {T : State} {locs : List Loc} {cells slots : Nat} {Z : State} {a0 : Array Value} {h h' : Heap} {a : Addr} {k : ClassId} {ty : FieldType} {z : Int32} {vs : List Value} {dv : Value}
theorem ofitc {cl : Cell} (A : Arr Z h a cl ty) (H : Has cl vs dv) (G : ∀ i, i < cl.slots.size → fits ty (vs.getD i dv) = true) : FitC Z cl := fun i v hv => by
  obtain ⟨hi, -⟩ := Array.getElem?_eq_some_iff.mp hv
  have q := (H i hi).symm.trans hv
  obtain ⟨-, kk, hk, comp, hkind⟩ := A.2.1
  have g := G i hi
  rw [Option.some.inj q] at g
  simp [State.fitsSlot, State.slotType?, hk, hkind, g]
theorem ocloneV (X : Stand p l e R s m args below meth c T locs cells slots) (hx : p.tables.exec = Jvm.exec) (hZ : Z.Warmed39 s.vm) {own ad : String} {index : Nat} (hown : s.vm.findClass own = some m.cls)
    (w1 : (Cond.methodLink own index ⟨ad, "clone", "()Ljava/lang/Object;"⟩).before a0 Z = true) (w2 : (Cond.sameMethod ad "java/lang/Object" "clone" "()Ljava/lang/Object;").before a0 Z = true) (w3 : (Cond.native ⟨"java/lang/Object", "clone", "()Ljava/lang/Object;"⟩).before a0 Z = true)
    (w4 : (Cond.instanceMethod ⟨"java/lang/Object", "clone", "()Ljava/lang/Object;"⟩).before a0 Z = true) (w5 : (Cond.selects ad ⟨ad, "clone", "()Ljava/lang/Object;"⟩ ⟨"java/lang/Object", "clone", "()Ljava/lang/Object;"⟩).before a0 Z = true) (w6 : (Cond.castable ad "java/lang/Cloneable").before a0 Z = true)
    (eT : T.heap = h) (V : Arv Z h a k ty z vs dv) (E : Exa Z h a ad) {g : JFrame} (hg : g.method = m) (hsize : g.locals.size = c.maxLocals) {rest : List Value} (hs : g.stack = .ref a :: rest) (hd : decode c.code g.pc = .ok (.invokevirtual index, 3))
    (hf : 1 ≤ R.frames) {W cap : Nat} (hW : 2 * g.monitorRoom + (rest.map fun v => v.category).sum ≤ W) (hl : W + 14 ≤ R.locals) (hcap : z.toNatClampNeg ≤ cap) (hc : cells + 1 ≤ R.cells) (hsl : slots + cap ≤ R.slots) :
    ∃ T' h', Stand p l e R s m args below meth c T' locs (cells + 1) (slots + cap) ∧ T'.heap = h' ∧ Ext h h' ∧ Arv Z h' h.size k ty z vs dv ∧ Exa Z h' h.size ad ∧
      ∀ target, Steps p.tables e below (T'.setTop { g with pc := g.pc + 3, stack := .ref h.size :: rest }) target → Steps p.tables e below (T.setTop g) target := by
  obtain ⟨cl, A, q1, q2, q3, H, G⟩ := V
  obtain ⟨T', h', X', e', E', A', Ea, st⟩ := cloneA X hx hZ hown w1 w2 w3 w4 w5 w6 eT A E (ofitc A H G) hg hsize hs hd hf hW hl (by rw [q2]; exact hcap) hc hsl
  exact ⟨T', h', X', e', E', ⟨cloneOf cl, A', q1, q2, q3, H, G⟩, Ea, st⟩
theorem osta_keep {C n d : String} {v : Value} {ws : List Addr} (F : Sta Z h C n d v) (K : Keep h h' ws) (hq : ∀ (st : Addr) (cell : Cell), h[st]? = some cell → cell.vm.isStatics = true → st ∉ ws) : Sta Z h' C n d v := by
  obtain ⟨cf, i, kk, f, st, cell, h1, h2, h3, h4, h5, h6, h7⟩ := F
  exact ⟨cf, i, kk, f, st, cell, h1, h2, h3, h4, K.2.1 st cell h5 (hq st cell h5 h6), h6, h7⟩
theorem osta_exa {C : String} {ws : List Addr} {o : Addr} (E : Exa Z h o C) (r : ∀ (st : Addr) (cell : Cell), h[st]? = some cell → cell.vm.isStatics = true → st ∉ ws) : ∀ (st : Addr) (cell : Cell), h[st]? = some cell → cell.vm.isStatics = true → st ∉ o :: ws := fun st cell h1 h2 => ninS (fun q => by
  subst q
  obtain ⟨c1, -, e1, -, -, e4, -⟩ := E
  cases e1.symm.trans h1
  rw [e4] at h2; cases h2) (r st cell h1 h2)
theorem osta_arr {cl : Cell} {ws : List Addr} {o : Addr} (A : Arr Z h o cl ty) (r : ∀ (st : Addr) (cell : Cell), h[st]? = some cell → cell.vm.isStatics = true → st ∉ ws) : ∀ (st : Addr) (cell : Cell), h[st]? = some cell → cell.vm.isStatics = true → st ∉ o :: ws := fun st cell h1 h2 => ninS (fun q => by
  subst q
  cases A.1.symm.trans h1
  have := A.plain
  rw [this] at h2; cases h2) (r st cell h1 h2)
theorem osta_arv {ws : List Addr} {o : Addr} (V : Arv Z h o k ty z vs dv) (r : ∀ (st : Addr) (cell : Cell), h[st]? = some cell → cell.vm.isStatics = true → st ∉ ws) : ∀ (st : Addr) (cell : Cell), h[st]? = some cell → cell.vm.isStatics = true → st ∉ o :: ws := by
  obtain ⟨cl, A, -⟩ := V; exact osta_arr A r
theorem oelem {t u : Term} {cl : Cell} {j : Int32} {w : Addr} (hh : (Cond.eq (Term.elem t (Term.int j)) u).value args Z none Z [] = some true) (ev : t.eval args Z none [] Z = some (.ref a)) (hc : Z.heap[a]? = some cl) (eu : u.eval args Z none [] Z = some (.ref w)) : cl.slots[j.toNatClampNeg]? = some (.ref w) := by
  obtain ⟨x, y, e1, e2, k1, k2⟩ := cmp_v (Or.inl hh)
  have q := elem_in e1 ev (Term.int_eval j) hc
  cases eu.symm.trans e2
  have hr : x.isRef = true := by cases x <;> simp_all [Kin, Value.isRef]
  have := gotT (eq_R e1 e2 hr rfl) hh
  rw [q.2, this]
theorem olen {t : Term} {cl : Cell} {n : Int32} (hh : (Cond.eq (Term.length t) (Term.int n)).value args Z none Z [] = some true) (ev : t.eval args Z none [] Z = some (.ref a)) (A : Arr Z Z.heap a cl ty) : cl.slots.size < 2 ^ 31 ∧ cl.slots.size.toInt32 = n := by
  obtain ⟨x, y, e1, e2, k1, k2⟩ := cmp_v (Or.inl hh)
  have hA := A.fin (Vm.Alike.refl _)
  by_cases hl : cl.slots.size < 2 ^ 31
  · refine ⟨hl, ?_⟩
    have q := len_f (args := args) (first := Z) (o := none) (idx := []) (s := Z) ev hA hl
    simp [Cond.value, q, Term.int_eval] at hh
    exact hh
  · simp [Term.eval, ev, hA, hl] at e1
end OwnArr
end Jvm.RoadKit
namespace Jvm.RoadKit
open Sem ClassFile Op Lib Jvm.Stand Jvm.Free Jvm.LawKit
section OwnW
variable {p : Program} {l : Launch} {e : Env} {R : Room} {s : State} {m : MethodId} {args : Array Value} {below : List Frame} {meth : Method} {c : Code} {T : State} {locs : List Loc} {cells slots : Nat}
/-- as OGo, the end in the wide frame -/
def OGoW (p : Program) (e : Env) (below : List Frame) (s : State) (Q : Option Value → Heap → List Loc → Prop) (C N : Nat) (t : State) : Prop :=
  ∃ s₂ o, Steps p.tables e below t s₂ ∧ s₂.status = .running ∧ Ended s₂ below o ∧ ∃ v L, o = .returned v ∧ Q v s₂.heap L ∧ ReturnedEndW s o s₂ L C N
theorem OGoW.st {Q : Option Value → Heap → List Loc → Prop} {C N : Nat} {t t' : State} (k : ∀ target, Steps p.tables e below t' target → Steps p.tables e below t target) (h : OGoW p e below s Q C N t') : OGoW p e below s Q C N t := by
  obtain ⟨s₂, o, a, r⟩ := h; exact ⟨s₂, o, k _ a, r⟩
theorem orew_mono {t : State} {o : Outcome} {L : List Loc} {k n k' n' : Nat} (h : ReturnedEndW s o t L k n) (h1 : k ≤ k') (h2 : n ≤ n') : ReturnedEndW s o t L k' n' := ⟨h.1, h.2.1, h.2.2.1, h.2.2.2.mono h1 h2⟩
theorem oretNW {Q : Option Value → Heap → List Loc → Prop} {C N : Nat} {vm₁ : Vm} {k1 : Nat} (X : Stand p l e R (s.setVm vm₁) m args below meth c T locs cells slots) (hx : p.tables.exec = Jvm.exec) (hS : s.Since vm₁ k1) (hk : k1 ≤ T.heap.size) (hlk : meth.locks = false) {pc : Nat} {Ls : Array Slot} {z z' : Int32} {t : FieldType} {rest : List Value} (hret : meth.sig.returnType = some t) (ht : t = .boolean ∨ t = .byte ∨ t = .char ∨ t = .short)
    (hd : decode c.code pc = .ok (.ireturn, 1)) (hz : nar t z = z') {h : Heap} (hh : T.heap = h) (hq : Q (some (.int z')) h locs) (hC : cells ≤ C) (hN : slots ≤ N) : OGoW p e below s Q C N (T.setTop (mkF m pc Ls (.int z :: rest))) := by
  subst hz
  obtain ⟨fs, hr, hrun, hended, hend⟩ := X.leaveW hS hk (v := some (.int (nar t z))) (fun h => by rw [hret] at h; cases h) hlk
  exact ⟨_, _, retN X hx hret ht hd hr, hrun, hended, _, _, rfl, hh ▸ hq, orew_mono hend hC hN⟩
end OwnW
end Jvm.RoadKit
namespace Jvm.Pilot.@@N@@
open Jvm Jvm.ClassFile Sem Op Lib Jvm.Free Jvm.Stand Jvm.LawKit Jvm.RoadKit Bundle Jvm.Pilot.@@N@@.Jvm.D

theorem d6_0 : decode jdk_71_method_1_code 0 = .ok (.aload_n 0, 1) := by decide +kernel
theorem d6_1 : decode jdk_71_method_1_code 1 = .ok (.invokespecial 1, 3) := by decide +kernel
theorem d6_4 : decode jdk_71_method_1_code 4 = .ok (.return_, 1) := by decide +kernel
theorem pn_6 : plainName "java/util/AbstractMap" = true := by first | (simp [plainName, overriddenIn]; done) | decide +kernel
theorem ef_6 (m : MethodId) (o0 : Addr) : entryFrame m #[(.ref o0)] 1 = mkF m 0 #[.val (.ref o0)] [] := by first | (simp [entryFrame, mkF, argsToLocals, Value.category]; done) | rfl
def Q6 (Z : State) (o0 : Addr) (h0 : Heap) (n0 : Nat) (v : Option Value) (h : Heap) (L : List Loc) : Prop := v = none ∧ Fr n0 L ∧ h = h0
set_option maxRecDepth 65536 in
set_option maxHeartbeats 40000000 in
theorem rm6 (l : Launch) (Z : State) (a0 : Array Value) (hw : ∀ d ∈ tables_1, d.before a0 Z = true) (ws : List Jvm.Cond) (o0 : Addr) (h0 : Heap) (n0 : Nat) (Z0 : n0 ≤ h0.size) :
    MetFree l (⟨"java/util/AbstractMap", "<init>", "()V"⟩ : MethodName) (head1 (Jvm.Cond.code (⟨"java/util/AbstractMap", "<init>", "()V"⟩ : MethodName) jdk_71_method_1_code 1 none :: ws) ({ frames := 1, cells := 0, slots := 0, locals := 12 } : Room)) (fun a U => a = #[(.ref o0)] ∧ Z.Warmed39 U.vm ∧ U.heap = h0) (fun _ _ _ _ _ => True) (fun _ U o U' => ∃ v L, o = .returned v ∧ Q6 Z o0 h0 n0 v U'.heap L ∧ FrameEnd U o U' L ({ frames := 1, cells := 0, slots := 0, locals := 12 } : Room).cells ({ frames := 1, cells := 0, slots := 0, locals := 12 } : Room).slots) := by
  refine MetFree.of_bodySF (plainFor_of_name pn_6) hisR ?_
  intro p e s m args below meth c s₁ Bd hml0 hP hK
  obtain ⟨rfl, hZ, hh⟩ := hP
  have hx := Bd.exec
  have hby := Bd.bytes
  have hml : c.maxLocals = 1 := hml0
  have hown : s.vm.findClass "java/util/AbstractMap" = some m.cls := findClass_of_methodNamed Bd.named
  have hnm := (name_of_methodNamed Bd.named Bd.method).1
  have X0 : Stand p l e ({ frames := 1, cells := 0, slots := 0, locals := 12 } : Room) s m #[(.ref o0)] below meth c s₁ [] 0 0 := Stand.of_body Bd
  have e0 : s₁.heap = h0 := by rw [← hh, Bd.state]; rfl
  have N0 := Fr.nil n0
  show OGo p e below s (Q6 Z o0 h0 n0) ({ frames := 1, cells := 0, slots := 0, locals := 12 } : Room).cells ({ frames := 1, cells := 0, slots := 0, locals := 12 } : Room).slots _
  refine OGo.st (fun _ k => castTop (ef_6 m o0) k) ?_
  show OGo p e below s _ _ _ (s₁.setTop (mkF m 0 #[.val (.ref o0)] []))
  refine OGo.st (fun _ k => XS.aloadN X0.here hx rfl (hb hby d6_0) rfl rfl k) ?_
  show OGo p e below s _ _ _ (s₁.setTop (mkF m 1 #[.val (.ref o0)] [(.ref o0)]))
  obtain ⟨T1, X1, e1, st1⟩ := initO X0 hx hZ hown (hw _ (List.mem_of_getElem? (i := 41) rfl)) (hw _ (List.mem_of_getElem? (i := 21) rfl)) (hw _ (List.mem_of_getElem? (i := 22) rfl)) e0 (g := (mkF m 1 #[.val (.ref o0)] [(.ref o0)])) rfl (by rw [hml]; rfl) rfl (hb hby d6_1) (by decide) (W := 0) (by show 2 * 0 + _ ≤ _; exact Nat.le_of_eq rfl) (by decide)
  refine OGo.st st1 ?_
  show OGo p e below s _ _ _ (T1.setTop (mkF m 4 #[.val (.ref o0)] []))
  exact oret0 X1 hx Bd.notSynchronized Bd.returns (hb hby d6_4) e1 ⟨rfl, N0, rfl⟩ (by decide) (by decide)
theorem d9_0 : decode jdk_22_method_1_code 0 = .ok (.aload_n 0, 1) := by decide +kernel
theorem d9_1 : decode jdk_22_method_1_code 1 = .ok (.invokespecial 1, 3) := by decide +kernel
theorem d9_4 : decode jdk_22_method_1_code 4 = .ok (.return_, 1) := by decide +kernel
theorem pn_9 : plainName "java/util/AbstractCollection" = true := by first | (simp [plainName, overriddenIn]; done) | decide +kernel
theorem ef_9 (m : MethodId) (o0 : Addr) : entryFrame m #[(.ref o0)] 1 = mkF m 0 #[.val (.ref o0)] [] := by first | (simp [entryFrame, mkF, argsToLocals, Value.category]; done) | rfl
def Q9 (Z : State) (o0 : Addr) (h0 : Heap) (n0 : Nat) (v : Option Value) (h : Heap) (L : List Loc) : Prop := v = none ∧ Fr n0 L ∧ h = h0
set_option maxRecDepth 65536 in
set_option maxHeartbeats 40000000 in
theorem rm9 (l : Launch) (Z : State) (a0 : Array Value) (hw : ∀ d ∈ tables_1, d.before a0 Z = true) (ws : List Jvm.Cond) (o0 : Addr) (h0 : Heap) (n0 : Nat) (Z0 : n0 ≤ h0.size) :
    MetFree l (⟨"java/util/AbstractCollection", "<init>", "()V"⟩ : MethodName) (head1 (Jvm.Cond.code (⟨"java/util/AbstractCollection", "<init>", "()V"⟩ : MethodName) jdk_22_method_1_code 1 none :: ws) ({ frames := 1, cells := 0, slots := 0, locals := 12 } : Room)) (fun a U => a = #[(.ref o0)] ∧ Z.Warmed39 U.vm ∧ U.heap = h0) (fun _ _ _ _ _ => True) (fun _ U o U' => ∃ v L, o = .returned v ∧ Q9 Z o0 h0 n0 v U'.heap L ∧ FrameEnd U o U' L ({ frames := 1, cells := 0, slots := 0, locals := 12 } : Room).cells ({ frames := 1, cells := 0, slots := 0, locals := 12 } : Room).slots) := by
  refine MetFree.of_bodySF (plainFor_of_name pn_9) hisR ?_
  intro p e s m args below meth c s₁ Bd hml0 hP hK
  obtain ⟨rfl, hZ, hh⟩ := hP
  have hx := Bd.exec
  have hby := Bd.bytes
  have hml : c.maxLocals = 1 := hml0
  have hown : s.vm.findClass "java/util/AbstractCollection" = some m.cls := findClass_of_methodNamed Bd.named
  have hnm := (name_of_methodNamed Bd.named Bd.method).1
  have X0 : Stand p l e ({ frames := 1, cells := 0, slots := 0, locals := 12 } : Room) s m #[(.ref o0)] below meth c s₁ [] 0 0 := Stand.of_body Bd
  have e0 : s₁.heap = h0 := by rw [← hh, Bd.state]; rfl
  have N0 := Fr.nil n0
  show OGo p e below s (Q9 Z o0 h0 n0) ({ frames := 1, cells := 0, slots := 0, locals := 12 } : Room).cells ({ frames := 1, cells := 0, slots := 0, locals := 12 } : Room).slots _
  refine OGo.st (fun _ k => castTop (ef_9 m o0) k) ?_
  show OGo p e below s _ _ _ (s₁.setTop (mkF m 0 #[.val (.ref o0)] []))
  refine OGo.st (fun _ k => XS.aloadN X0.here hx rfl (hb hby d9_0) rfl rfl k) ?_
  show OGo p e below s _ _ _ (s₁.setTop (mkF m 1 #[.val (.ref o0)] [(.ref o0)]))
  obtain ⟨T1, X1, e1, st1⟩ := initO X0 hx hZ hown (hw _ (List.mem_of_getElem? (i := 73) rfl)) (hw _ (List.mem_of_getElem? (i := 21) rfl)) (hw _ (List.mem_of_getElem? (i := 22) rfl)) e0 (g := (mkF m 1 #[.val (.ref o0)] [(.ref o0)])) rfl (by rw [hml]; rfl) rfl (hb hby d9_1) (by decide) (W := 0) (by show 2 * 0 + _ ≤ _; exact Nat.le_of_eq rfl) (by decide)
  refine OGo.st st1 ?_
  show OGo p e below s _ _ _ (T1.setTop (mkF m 4 #[.val (.ref o0)] []))
  exact oret0 X1 hx Bd.notSynchronized Bd.returns (hb hby d9_4) e1 ⟨rfl, N0, rfl⟩ (by decide) (by decide)
theorem d13_0 : decode jdk_91_method_1_code 0 = .ok (.aload_n 0, 1) := by decide +kernel
theorem d13_1 : decode jdk_91_method_1_code 1 = .ok (.invokespecial 1, 3) := by decide +kernel
theorem d13_4 : decode jdk_91_method_1_code 4 = .ok (.return_, 1) := by decide +kernel
theorem pn_13 : plainName "java/util/AbstractSet" = true := by first | (simp [plainName, overriddenIn]; done) | decide +kernel
theorem pd_13_0 : parseMethodDescriptor "()V" = some ⟨[], none⟩ := by decide +kernel
theorem ef_13 (m : MethodId) (o0 : Addr) : entryFrame m #[(.ref o0)] 1 = mkF m 0 #[.val (.ref o0)] [] := by first | (simp [entryFrame, mkF, argsToLocals, Value.category]; done) | rfl
def Q13 (Z : State) (o0 : Addr) (h0 : Heap) (n0 : Nat) (v : Option Value) (h : Heap) (L : List Loc) : Prop := v = none ∧ Fr n0 L ∧ h = h0
set_option maxRecDepth 65536 in
set_option maxHeartbeats 40000000 in
theorem rm13 (l : Launch) (Z : State) (a0 : Array Value) (hw : ∀ d ∈ tables_1, d.before a0 Z = true) (ws : List Jvm.Cond) (o0 : Addr) (h0 : Heap) (n0 : Nat) (Z0 : n0 ≤ h0.size) :
    MetFree l (⟨"java/util/AbstractSet", "<init>", "()V"⟩ : MethodName) (head1 (Jvm.Cond.code (⟨"java/util/AbstractSet", "<init>", "()V"⟩ : MethodName) jdk_91_method_1_code 1 none :: ws) ({ frames := 2, cells := 0, slots := 0, locals := 24 } : Room)) (fun a U => a = #[(.ref o0)] ∧ Z.Warmed39 U.vm ∧ U.heap = h0) (fun _ _ _ _ _ => True) (fun _ U o U' => ∃ v L, o = .returned v ∧ Q13 Z o0 h0 n0 v U'.heap L ∧ FrameEnd U o U' L ({ frames := 2, cells := 0, slots := 0, locals := 24 } : Room).cells ({ frames := 2, cells := 0, slots := 0, locals := 24 } : Room).slots) := by
  refine MetFree.of_bodySF (plainFor_of_name pn_13) hisR ?_
  intro p e s m args below meth c s₁ Bd hml0 hP hK
  obtain ⟨rfl, hZ, hh⟩ := hP
  have hx := Bd.exec
  have hby := Bd.bytes
  have hml : c.maxLocals = 1 := hml0
  have hown : s.vm.findClass "java/util/AbstractSet" = some m.cls := findClass_of_methodNamed Bd.named
  have hnm := (name_of_methodNamed Bd.named Bd.method).1
  have X0 : Stand p l e ({ frames := 2, cells := 0, slots := 0, locals := 24 } : Room) s m #[(.ref o0)] below meth c s₁ [] 0 0 := Stand.of_body Bd
  have e0 : s₁.heap = h0 := by rw [← hh, Bd.state]; rfl
  have N0 := Fr.nil n0
  show OGo p e below s (Q13 Z o0 h0 n0) ({ frames := 2, cells := 0, slots := 0, locals := 24 } : Room).cells ({ frames := 2, cells := 0, slots := 0, locals := 24 } : Room).slots _
  refine OGo.st (fun _ k => castTop (ef_13 m o0) k) ?_
  show OGo p e below s _ _ _ (s₁.setTop (mkF m 0 #[.val (.ref o0)] []))
  refine OGo.st (fun _ k => XS.aloadN X0.here hx rfl (hb hby d13_0) rfl rfl k) ?_
  show OGo p e below s _ _ _ (s₁.setTop (mkF m 1 #[.val (.ref o0)] [(.ref o0)]))
  obtain ⟨_, _, ⟨T1, L1, k1, n1⟩, -, X1, ⟨Lc1, hQ1, l1, y1, z1⟩, st1⟩ := X0.specialBack hx (y := (⟨"java/util/AbstractCollection", "<init>", "()V"⟩ : MethodName)) rfl hown (mvT hZ (hw _ (List.mem_of_getElem? (i := 135) rfl))) (mvT hZ (hw _ (List.mem_of_getElem? (i := 68) rfl))) (mvT hZ (hw _ (List.mem_of_getElem? (i := 72) rfl))) (by decide) (backOf (W := 0) (rm9 l Z a0 hw [] o0 h0 n0 Z0) hZ (hw _ (List.mem_of_getElem? (i := 72) rfl)) (hw _ (List.mem_of_getElem? (i := 71) rfl)) (by decide) (by decide)) (g := (mkF m 1 #[.val (.ref o0)] [(.ref o0)])) rfl (by rw [hml]; rfl) (Steps.refl _) (a := o0) (argsL := []) (rest := []) (lenOf pd_13_0 rfl) rfl (by show 2 * 0 + _ ≤ _; exact Nat.le_of_eq rfl) (hb hby d13_1) (fun _ _ => ⟨rfl, e0, (by decide : 0 + 0 ≤ _), (by decide : 0 + 0 ≤ _)⟩)
  dsimp only [Pt.U, Pt.locs, Pt.cells, Pt.slots] at X1 l1 y1 z1 st1 hQ1
  subst l1 y1 z1
  obtain ⟨rfl, N1q, e1⟩ := hQ1
  have N1 := Fr.app N0 N1q
  refine OGo.st (fun _ k => st1.trans k) ?_
  show OGo p e below s _ _ _ (T1.setTop (mkF m 4 #[.val (.ref o0)] []))
  exact oret0 X1 hx Bd.notSynchronized Bd.returns (hb hby d13_4) e1 ⟨rfl, N1, rfl⟩ (by decide) (by decide)
theorem d5_0 : decode jdk_69_method_7_code 0 = .ok (.aload_n 0, 1) := by decide +kernel
theorem d5_1 : decode jdk_69_method_7_code 1 = .ok (.invokespecial 43, 3) := by decide +kernel
theorem d5_4 : decode jdk_69_method_7_code 4 = .ok (.aload_n 0, 1) := by decide +kernel
theorem d5_5 : decode jdk_69_method_7_code 5 = .ok (.ldc 92, 2) := by decide +kernel
theorem d5_7 : decode jdk_69_method_7_code 7 = .ok (.putfield 81, 3) := by decide +kernel
theorem d5_10 : decode jdk_69_method_7_code 10 = .ok (.return_, 1) := by decide +kernel
theorem pn_5 : plainName "java/util/HashMap" = true := by first | (simp [plainName, overriddenIn]; done) | decide +kernel
theorem pd_5L_0 : parseMethodDescriptor "()V" = some ⟨[], none⟩ := by decide +kernel
theorem ef_5L (m : MethodId) (o0 : Addr) : entryFrame m #[(.ref o0)] 1 = mkF m 0 #[.val (.ref o0)] [] := by first | (simp [entryFrame, mkF, argsToLocals, Value.category]; done) | rfl
def Q5L (Z : State) (o0 : Addr) (h0 : Heap) (n0 : Nat) (v : Option Value) (h : Heap) (L : List Loc) : Prop := v = none ∧ Fr n0 L ∧ Keep h0 h [o0] ∧ Fld Z h o0 "java/util/HashMap" "loadFactor" "F" (.float (1061158912 : UInt32)) ∧ Fld Z h o0 "java/util/LinkedHashMap" "putMode" "I" (.int (0 : Int32)) ∧ Fld Z h o0 "java/util/LinkedHashMap" "accessOrder" "Z" (.int (0 : Int32))
set_option maxRecDepth 65536 in
set_option maxHeartbeats 40000000 in
theorem rm5L (l : Launch) (Z : State) (a0 : Array Value) (hw : ∀ d ∈ tables_1, d.before a0 Z = true) (ws : List Jvm.Cond) (o0 : Addr) (h0 : Heap) (n0 : Nat) (Z0 : n0 ≤ h0.size) (E_o0 : Exa Z h0 o0 "java/util/LinkedHashMap") (F_loadFactor : Fld Z h0 o0 "java/util/HashMap" "loadFactor" "F" (.float 0)) (F_putMode : Fld Z h0 o0 "java/util/LinkedHashMap" "putMode" "I" (.int (0 : Int32))) (F_accessOrder : Fld Z h0 o0 "java/util/LinkedHashMap" "accessOrder" "Z" (.int (0 : Int32))) (g_o0 : n0 ≤ o0) :
    MetFree l (⟨"java/util/HashMap", "<init>", "()V"⟩ : MethodName) (head1 (Jvm.Cond.code (⟨"java/util/HashMap", "<init>", "()V"⟩ : MethodName) jdk_69_method_7_code 1 none :: ws) ({ frames := 2, cells := 0, slots := 0, locals := 24 } : Room)) (fun a U => a = #[(.ref o0)] ∧ Z.Warmed39 U.vm ∧ U.heap = h0) (fun _ _ _ _ _ => True) (fun _ U o U' => ∃ v L, o = .returned v ∧ Q5L Z o0 h0 n0 v U'.heap L ∧ FrameEnd U o U' L ({ frames := 2, cells := 0, slots := 0, locals := 24 } : Room).cells ({ frames := 2, cells := 0, slots := 0, locals := 24 } : Room).slots) := by
  refine MetFree.of_bodySF (plainFor_of_name pn_5) hisR ?_
  intro p e s m args below meth c s₁ Bd hml0 hP hK
  obtain ⟨rfl, hZ, hh⟩ := hP
  have hx := Bd.exec
  have hby := Bd.bytes
  have hml : c.maxLocals = 1 := hml0
  have hown : s.vm.findClass "java/util/HashMap" = some m.cls := findClass_of_methodNamed Bd.named
  have hnm := (name_of_methodNamed Bd.named Bd.method).1
  have X0 : Stand p l e ({ frames := 2, cells := 0, slots := 0, locals := 24 } : Room) s m #[(.ref o0)] below meth c s₁ [] 0 0 := Stand.of_body Bd
  have e0 : s₁.heap = h0 := by rw [← hh, Bd.state]; rfl
  have N0 := Fr.nil n0
  show OGo p e below s (Q5L Z o0 h0 n0) ({ frames := 2, cells := 0, slots := 0, locals := 24 } : Room).cells ({ frames := 2, cells := 0, slots := 0, locals := 24 } : Room).slots _
  refine OGo.st (fun _ k => castTop (ef_5L m o0) k) ?_
  show OGo p e below s _ _ _ (s₁.setTop (mkF m 0 #[.val (.ref o0)] []))
  refine OGo.st (fun _ k => XS.aloadN X0.here hx rfl (hb hby d5_0) rfl rfl k) ?_
  show OGo p e below s _ _ _ (s₁.setTop (mkF m 1 #[.val (.ref o0)] [(.ref o0)]))
  obtain ⟨_, _, ⟨T1, L1, k1, n1⟩, -, X1, ⟨Lc1, hQ1, l1, y1, z1⟩, st1⟩ := X0.specialBack hx (y := (⟨"java/util/AbstractMap", "<init>", "()V"⟩ : MethodName)) rfl hown (mvT hZ (hw _ (List.mem_of_getElem? (i := 35) rfl))) (mvT hZ (hw _ (List.mem_of_getElem? (i := 36) rfl))) (mvT hZ (hw _ (List.mem_of_getElem? (i := 40) rfl))) (by decide) (backOf (W := 0) (rm6 l Z a0 hw [] o0 h0 n0 Z0) hZ (hw _ (List.mem_of_getElem? (i := 40) rfl)) (hw _ (List.mem_of_getElem? (i := 39) rfl)) (by decide) (by decide)) (g := (mkF m 1 #[.val (.ref o0)] [(.ref o0)])) rfl (by rw [hml]; rfl) (Steps.refl _) (a := o0) (argsL := []) (rest := []) (lenOf pd_5L_0 rfl) rfl (by show 2 * 0 + _ ≤ _; exact Nat.le_of_eq rfl) (hb hby d5_1) (fun _ _ => ⟨rfl, e0, (by decide : 0 + 0 ≤ _), (by decide : 0 + 0 ≤ _)⟩)
  dsimp only [Pt.U, Pt.locs, Pt.cells, Pt.slots] at X1 l1 y1 z1 st1 hQ1
  subst l1 y1 z1
  obtain ⟨rfl, N1q, e1⟩ := hQ1
  have N1 := Fr.app N0 N1q
  refine OGo.st (fun _ k => st1.trans k) ?_
  show OGo p e below s _ _ _ (T1.setTop (mkF m 4 #[.val (.ref o0)] []))
  refine OGo.st (fun _ k => XS.aloadN X1.here hx rfl (hb hby d5_4) rfl rfl k) ?_
  show OGo p e below s _ _ _ (T1.setTop (mkF m 5 #[.val (.ref o0)] [(.ref o0)]))
  refine OGo.st (fun _ k => X1.ldcFloatC hx hown (mvT hZ (hw _ (List.mem_of_getElem? (i := 42) rfl))) (g := (mkF m 5 #[.val (.ref o0)] [(.ref o0)])) rfl (hb hby d5_5) _ k) ?_
  show OGo p e below s _ _ _ (T1.setTop (mkF m 7 #[.val (.ref o0)] [(.float (1061158912 : UInt32)), (.ref o0)]))
  obtain ⟨T2, h2, X2, e2, W2, st2⟩ := putF X1 hx hZ hown (host := "") (Or.inl (hw _ (List.mem_of_getElem? (i := 43) rfl))) Via.refl e1 F_loadFactor E_o0 (Or.inr ⟨(hw _ (List.mem_of_getElem? (i := 44) rfl)), rfl, hnm⟩) (hw _ (List.mem_of_getElem? (i := 24) rfl)) (ty := .float) (by decide) rfl rfl (g := (mkF m 7 #[.val (.ref o0)] [(.float (1061158912 : UInt32)), (.ref o0)])) rfl rfl (hb hby d5_7)
  refine OGo.st st2 ?_
  have E_o0_w2 := E_o0.wr W2
  have F_putMode_w2 := F_putMode.other W2 (Or.inr (slot_ne (a0 := a0) (Or.inl (hw _ (List.mem_of_getElem? (i := 46) rfl))) (Or.inr (hw _ (List.mem_of_getElem? (i := 44) rfl))) (by decide) (t := .int) (t' := .float) (by decide) (by decide)))
  have F_accessOrder_w2 := F_accessOrder.other W2 (Or.inr (slot_ne (a0 := a0) (Or.inr (hw _ (List.mem_of_getElem? (i := 48) rfl))) (Or.inr (hw _ (List.mem_of_getElem? (i := 44) rfl))) (by decide) (t := .boolean) (t' := .float) (by decide) (by decide)))
  have K2 : Keep h0 h2 [o0] := (Keep.refl h0 _).wr W2 (Or.inl (List.mem_of_getElem? (i := 0) rfl))
  have N2 := Fr.snoc X2 N1 g_o0
  have Z2 : n0 ≤ h2.size := Nat.le_trans Z0 (Keep.of_wr W2).1
  have F2 : Fld Z h2 o0 "java/util/HashMap" "loadFactor" "F" (.float (1061158912 : UInt32)) := F_loadFactor.same W2
  show OGo p e below s _ _ _ (T2.setTop (mkF m 10 #[.val (.ref o0)] []))
  exact oret0 X2 hx Bd.notSynchronized Bd.returns (hb hby d5_10) e2 ⟨rfl, N2, K2, F2, F_putMode_w2, F_accessOrder_w2⟩ (by decide) (by decide)
theorem pd_5H_0 : parseMethodDescriptor "()V" = some ⟨[], none⟩ := by decide +kernel
theorem ef_5H (m : MethodId) (o0 : Addr) : entryFrame m #[(.ref o0)] 1 = mkF m 0 #[.val (.ref o0)] [] := by first | (simp [entryFrame, mkF, argsToLocals, Value.category]; done) | rfl
def Q5H (Z : State) (o0 : Addr) (h0 : Heap) (n0 : Nat) (v : Option Value) (h : Heap) (L : List Loc) : Prop := v = none ∧ Fr n0 L ∧ Keep h0 h [o0]
set_option maxRecDepth 65536 in
set_option maxHeartbeats 40000000 in
theorem rm5H (l : Launch) (Z : State) (a0 : Array Value) (hw : ∀ d ∈ tables_1, d.before a0 Z = true) (ws : List Jvm.Cond) (o0 : Addr) (h0 : Heap) (n0 : Nat) (Z0 : n0 ≤ h0.size) (E_o0 : Exa Z h0 o0 "java/util/HashMap") (F_loadFactor : Fld Z h0 o0 "java/util/HashMap" "loadFactor" "F" (.float 0)) (g_o0 : n0 ≤ o0) :
    MetFree l (⟨"java/util/HashMap", "<init>", "()V"⟩ : MethodName) (head1 (Jvm.Cond.code (⟨"java/util/HashMap", "<init>", "()V"⟩ : MethodName) jdk_69_method_7_code 1 none :: ws) ({ frames := 2, cells := 0, slots := 0, locals := 24 } : Room)) (fun a U => a = #[(.ref o0)] ∧ Z.Warmed39 U.vm ∧ U.heap = h0) (fun _ _ _ _ _ => True) (fun _ U o U' => ∃ v L, o = .returned v ∧ Q5H Z o0 h0 n0 v U'.heap L ∧ FrameEnd U o U' L ({ frames := 2, cells := 0, slots := 0, locals := 24 } : Room).cells ({ frames := 2, cells := 0, slots := 0, locals := 24 } : Room).slots) := by
  refine MetFree.of_bodySF (plainFor_of_name pn_5) hisR ?_
  intro p e s m args below meth c s₁ Bd hml0 hP hK
  obtain ⟨rfl, hZ, hh⟩ := hP
  have hx := Bd.exec
  have hby := Bd.bytes
  have hml : c.maxLocals = 1 := hml0
  have hown : s.vm.findClass "java/util/HashMap" = some m.cls := findClass_of_methodNamed Bd.named
  have hnm := (name_of_methodNamed Bd.named Bd.method).1
  have X0 : Stand p l e ({ frames := 2, cells := 0, slots := 0, locals := 24 } : Room) s m #[(.ref o0)] below meth c s₁ [] 0 0 := Stand.of_body Bd
  have e0 : s₁.heap = h0 := by rw [← hh, Bd.state]; rfl
  have N0 := Fr.nil n0
  show OGo p e below s (Q5H Z o0 h0 n0) ({ frames := 2, cells := 0, slots := 0, locals := 24 } : Room).cells ({ frames := 2, cells := 0, slots := 0, locals := 24 } : Room).slots _
  refine OGo.st (fun _ k => castTop (ef_5H m o0) k) ?_
  show OGo p e below s _ _ _ (s₁.setTop (mkF m 0 #[.val (.ref o0)] []))
  refine OGo.st (fun _ k => XS.aloadN X0.here hx rfl (hb hby d5_0) rfl rfl k) ?_
  show OGo p e below s _ _ _ (s₁.setTop (mkF m 1 #[.val (.ref o0)] [(.ref o0)]))
  obtain ⟨_, _, ⟨T1, L1, k1, n1⟩, -, X1, ⟨Lc1, hQ1, l1, y1, z1⟩, st1⟩ := X0.specialBack hx (y := (⟨"java/util/AbstractMap", "<init>", "()V"⟩ : MethodName)) rfl hown (mvT hZ (hw _ (List.mem_of_getElem? (i := 35) rfl))) (mvT hZ (hw _ (List.mem_of_getElem? (i := 36) rfl))) (mvT hZ (hw _ (List.mem_of_getElem? (i := 40) rfl))) (by decide) (backOf (W := 0) (rm6 l Z a0 hw [] o0 h0 n0 Z0) hZ (hw _ (List.mem_of_getElem? (i := 40) rfl)) (hw _ (List.mem_of_getElem? (i := 39) rfl)) (by decide) (by decide)) (g := (mkF m 1 #[.val (.ref o0)] [(.ref o0)])) rfl (by rw [hml]; rfl) (Steps.refl _) (a := o0) (argsL := []) (rest := []) (lenOf pd_5H_0 rfl) rfl (by show 2 * 0 + _ ≤ _; exact Nat.le_of_eq rfl) (hb hby d5_1) (fun _ _ => ⟨rfl, e0, (by decide : 0 + 0 ≤ _), (by decide : 0 + 0 ≤ _)⟩)
  dsimp only [Pt.U, Pt.locs, Pt.cells, Pt.slots] at X1 l1 y1 z1 st1 hQ1
  subst l1 y1 z1
  obtain ⟨rfl, N1q, e1⟩ := hQ1
  have N1 := Fr.app N0 N1q
  refine OGo.st (fun _ k => st1.trans k) ?_
  show OGo p e below s _ _ _ (T1.setTop (mkF m 4 #[.val (.ref o0)] []))
  refine OGo.st (fun _ k => XS.aloadN X1.here hx rfl (hb hby d5_4) rfl rfl k) ?_
  show OGo p e below s _ _ _ (T1.setTop (mkF m 5 #[.val (.ref o0)] [(.ref o0)]))
  refine OGo.st (fun _ k => X1.ldcFloatC hx hown (mvT hZ (hw _ (List.mem_of_getElem? (i := 42) rfl))) (g := (mkF m 5 #[.val (.ref o0)] [(.ref o0)])) rfl (hb hby d5_5) _ k) ?_
  show OGo p e below s _ _ _ (T1.setTop (mkF m 7 #[.val (.ref o0)] [(.float (1061158912 : UInt32)), (.ref o0)]))
  obtain ⟨T2, h2, X2, e2, W2, st2⟩ := putF X1 hx hZ hown (host := "") (Or.inl (hw _ (List.mem_of_getElem? (i := 43) rfl))) Via.refl e1 F_loadFactor E_o0 (Or.inr ⟨(hw _ (List.mem_of_getElem? (i := 120) rfl)), rfl, hnm⟩) (hw _ (List.mem_of_getElem? (i := 117) rfl)) (ty := .float) (by decide) rfl rfl (g := (mkF m 7 #[.val (.ref o0)] [(.float (1061158912 : UInt32)), (.ref o0)])) rfl rfl (hb hby d5_7)
  refine OGo.st st2 ?_
  have E_o0_w2 := E_o0.wr W2
  have K2 : Keep h0 h2 [o0] := (Keep.refl h0 _).wr W2 (Or.inl (List.mem_of_getElem? (i := 0) rfl))
  have N2 := Fr.snoc X2 N1 g_o0
  have Z2 : n0 ≤ h2.size := Nat.le_trans Z0 (Keep.of_wr W2).1
  have F2 : Fld Z h2 o0 "java/util/HashMap" "loadFactor" "F" (.float (1061158912 : UInt32)) := F_loadFactor.same W2
  show OGo p e below s _ _ _ (T2.setTop (mkF m 10 #[.val (.ref o0)] []))
  exact oret0 X2 hx Bd.notSynchronized Bd.returns (hb hby d5_10) e2 ⟨rfl, N2, K2⟩ (by decide) (by decide)
theorem d4_0 : decode jdk_94_method_16_code 0 = .ok (.aload_n 0, 1) := by decide +kernel
theorem d4_1 : decode jdk_94_method_16_code 1 = .ok (.invokespecial 87, 3) := by decide +kernel
theorem d4_4 : decode jdk_94_method_16_code 4 = .ok (.aload_n 0, 1) := by decide +kernel
theorem d4_5 : decode jdk_94_method_16_code 5 = .ok (.iconst 0, 1) := by decide +kernel
theorem d4_6 : decode jdk_94_method_16_code 6 = .ok (.putfield 1, 3) := by decide +kernel
theorem d4_9 : decode jdk_94_method_16_code 9 = .ok (.aload_n 0, 1) := by decide +kernel
theorem d4_10 : decode jdk_94_method_16_code 10 = .ok (.iconst 0, 1) := by decide +kernel
theorem d4_11 : decode jdk_94_method_16_code 11 = .ok (.putfield 64, 3) := by decide +kernel
theorem d4_14 : decode jdk_94_method_16_code 14 = .ok (.return_, 1) := by decide +kernel
theorem pn_4 : plainName "java/util/LinkedHashMap" = true := by first | (simp [plainName, overriddenIn]; done) | decide +kernel
theorem pd_4_0 : parseMethodDescriptor "()V" = some ⟨[], none⟩ := by decide +kernel
theorem ef_4 (m : MethodId) (o0 : Addr) : entryFrame m #[(.ref o0)] 1 = mkF m 0 #[.val (.ref o0)] [] := by first | (simp [entryFrame, mkF, argsToLocals, Value.category]; done) | rfl
def Q4 (Z : State) (o0 : Addr) (h0 : Heap) (n0 : Nat) (v : Option Value) (h : Heap) (L : List Loc) : Prop := v = none ∧ Fr n0 L ∧ Keep h0 h [o0]
set_option maxRecDepth 65536 in
set_option maxHeartbeats 40000000 in
theorem rm4 (l : Launch) (Z : State) (a0 : Array Value) (hw : ∀ d ∈ tables_1, d.before a0 Z = true) (ws : List Jvm.Cond) (o0 : Addr) (h0 : Heap) (n0 : Nat) (Z0 : n0 ≤ h0.size) (E_o0 : Exa Z h0 o0 "java/util/LinkedHashMap") (F_loadFactor : Fld Z h0 o0 "java/util/HashMap" "loadFactor" "F" (.float 0)) (F_putMode : Fld Z h0 o0 "java/util/LinkedHashMap" "putMode" "I" (.int (0 : Int32))) (F_accessOrder : Fld Z h0 o0 "java/util/LinkedHashMap" "accessOrder" "Z" (.int (0 : Int32))) (g_o0 : n0 ≤ o0) :
    MetFree l (⟨"java/util/LinkedHashMap", "<init>", "()V"⟩ : MethodName) (head1 (Jvm.Cond.code (⟨"java/util/LinkedHashMap", "<init>", "()V"⟩ : MethodName) jdk_94_method_16_code 1 none :: ws) ({ frames := 3, cells := 0, slots := 0, locals := 36 } : Room)) (fun a U => a = #[(.ref o0)] ∧ Z.Warmed39 U.vm ∧ U.heap = h0) (fun _ _ _ _ _ => True) (fun _ U o U' => ∃ v L, o = .returned v ∧ Q4 Z o0 h0 n0 v U'.heap L ∧ FrameEnd U o U' L ({ frames := 3, cells := 0, slots := 0, locals := 36 } : Room).cells ({ frames := 3, cells := 0, slots := 0, locals := 36 } : Room).slots) := by
  refine MetFree.of_bodySF (plainFor_of_name pn_4) hisR ?_
  intro p e s m args below meth c s₁ Bd hml0 hP hK
  obtain ⟨rfl, hZ, hh⟩ := hP
  have hx := Bd.exec
  have hby := Bd.bytes
  have hml : c.maxLocals = 1 := hml0
  have hown : s.vm.findClass "java/util/LinkedHashMap" = some m.cls := findClass_of_methodNamed Bd.named
  have hnm := (name_of_methodNamed Bd.named Bd.method).1
  have X0 : Stand p l e ({ frames := 3, cells := 0, slots := 0, locals := 36 } : Room) s m #[(.ref o0)] below meth c s₁ [] 0 0 := Stand.of_body Bd
  have e0 : s₁.heap = h0 := by rw [← hh, Bd.state]; rfl
  have N0 := Fr.nil n0
  show OGo p e below s (Q4 Z o0 h0 n0) ({ frames := 3, cells := 0, slots := 0, locals := 36 } : Room).cells ({ frames := 3, cells := 0, slots := 0, locals := 36 } : Room).slots _
  refine OGo.st (fun _ k => castTop (ef_4 m o0) k) ?_
  show OGo p e below s _ _ _ (s₁.setTop (mkF m 0 #[.val (.ref o0)] []))
  refine OGo.st (fun _ k => XS.aloadN X0.here hx rfl (hb hby d4_0) rfl rfl k) ?_
  show OGo p e below s _ _ _ (s₁.setTop (mkF m 1 #[.val (.ref o0)] [(.ref o0)]))
  obtain ⟨_, _, ⟨T1, L1, k1, n1⟩, -, X1, ⟨Lc1, hQ1, l1, y1, z1⟩, st1⟩ := X0.specialBack hx (y := (⟨"java/util/HashMap", "<init>", "()V"⟩ : MethodName)) rfl hown (mvT hZ (hw _ (List.mem_of_getElem? (i := 29) rfl))) (mvT hZ (hw _ (List.mem_of_getElem? (i := 30) rfl))) (mvT hZ (hw _ (List.mem_of_getElem? (i := 34) rfl))) (by decide) (backOf (W := 0) (rm5L l Z a0 hw [] o0 h0 n0 Z0 E_o0 F_loadFactor F_putMode F_accessOrder g_o0) hZ (hw _ (List.mem_of_getElem? (i := 34) rfl)) (hw _ (List.mem_of_getElem? (i := 33) rfl)) (by decide) (by decide)) (g := (mkF m 1 #[.val (.ref o0)] [(.ref o0)])) rfl (by rw [hml]; rfl) (Steps.refl _) (a := o0) (argsL := []) (rest := []) (lenOf pd_4_0 rfl) rfl (by show 2 * 0 + _ ≤ _; exact Nat.le_of_eq rfl) (hb hby d4_1) (fun _ _ => ⟨rfl, e0, (by decide : 0 + 0 ≤ _), (by decide : 0 + 0 ≤ _)⟩)
  dsimp only [Pt.U, Pt.locs, Pt.cells, Pt.slots] at X1 l1 y1 z1 st1 hQ1
  subst l1 y1 z1
  obtain ⟨rfl, N1q, Kc1, G1_0, G1_1, G1_2⟩ := hQ1
  have E_o0_w1 := E_o0.keep Kc1
  have K1 : Keep h0 T1.heap [o0] := (Keep.refl h0 _).trans Kc1 (allS (Or.inl (List.mem_of_getElem? (i := 0) rfl)) all0)
  have Z1 : n0 ≤ T1.heap.size := Nat.le_trans Z0 Kc1.1
  have N1 := Fr.app N0 N1q
  refine OGo.st (fun _ k => st1.trans k) ?_
  show OGo p e below s _ _ _ (T1.setTop (mkF m 4 #[.val (.ref o0)] []))
  refine OGo.st (fun _ k => XS.aloadN X1.here hx rfl (hb hby d4_4) rfl rfl k) ?_
  show OGo p e below s _ _ _ (T1.setTop (mkF m 5 #[.val (.ref o0)] [(.ref o0)]))
  refine OGo.st (fun _ k => XS.iconst X1.here hx rfl (hb hby d4_5) k) ?_
  show OGo p e below s _ _ _ (T1.setTop (mkF m 6 #[.val (.ref o0)] [(.int (0 : Int32)), (.ref o0)]))
  obtain ⟨T2, h2, X2, e2, W2, st2⟩ := putF X1 hx hZ hown (host := "") (Or.inl (hw _ (List.mem_of_getElem? (i := 45) rfl))) Via.refl rfl G1_1 E_o0_w1 (Or.inl (hw _ (List.mem_of_getElem? (i := 46) rfl))) (hw _ (List.mem_of_getElem? (i := 24) rfl)) (ty := .int) (by decide) rfl rfl (g := (mkF m 6 #[.val (.ref o0)] [(.int (0 : Int32)), (.ref o0)])) rfl rfl (hb hby d4_6)
  refine OGo.st st2 ?_
  have E_o0_w2 := E_o0_w1.wr W2
  have G1_0_w2 := G1_0.other W2 (Or.inr (slot_ne (a0 := a0) (Or.inr (hw _ (List.mem_of_getElem? (i := 44) rfl))) (Or.inl (hw _ (List.mem_of_getElem? (i := 46) rfl))) (by decide) (t := .float) (t' := .int) (by decide) (by decide)))
  have G1_2_w2 := G1_2.other W2 (Or.inr (slot_ne (a0 := a0) (Or.inr (hw _ (List.mem_of_getElem? (i := 48) rfl))) (Or.inl (hw _ (List.mem_of_getElem? (i := 46) rfl))) (by decide) (t := .boolean) (t' := .int) (by decide) (by decide)))
  have K2 : Keep h0 h2 [o0] := (K1).wr W2 (Or.inl (List.mem_of_getElem? (i := 0) rfl))
  have N2 := Fr.snoc X2 N1 g_o0
  have Z2 : n0 ≤ h2.size := Nat.le_trans Z1 (Keep.of_wr W2).1
  have F2 : Fld Z h2 o0 "java/util/LinkedHashMap" "putMode" "I" (.int (0 : Int32)) := G1_1.same W2
  show OGo p e below s _ _ _ (T2.setTop (mkF m 9 #[.val (.ref o0)] []))
  refine OGo.st (fun _ k => XS.aloadN X2.here hx rfl (hb hby d4_9) rfl rfl k) ?_
  show OGo p e below s _ _ _ (T2.setTop (mkF m 10 #[.val (.ref o0)] [(.ref o0)]))
  refine OGo.st (fun _ k => XS.iconst X2.here hx rfl (hb hby d4_10) k) ?_
  show OGo p e below s _ _ _ (T2.setTop (mkF m 11 #[.val (.ref o0)] [(.int (0 : Int32)), (.ref o0)]))
  obtain ⟨T3, h3, X3, e3, W3, st3⟩ := putFN X2 hx hZ hown (hw _ (List.mem_of_getElem? (i := 47) rfl)) Via.refl e2 G1_2_w2 E_o0_w2 (Or.inr ⟨(hw _ (List.mem_of_getElem? (i := 48) rfl)), rfl, hnm⟩) (hw _ (List.mem_of_getElem? (i := 24) rfl)) (ty := .boolean) (v := (.int (0 : Int32))) (v' := (.int (0 : Int32))) (by decide) rfl (by decide) (g := (mkF m 11 #[.val (.ref o0)] [(.int (0 : Int32)), (.ref o0)])) rfl rfl (hb hby d4_11)
  refine OGo.st st3 ?_
  have E_o0_w3 := E_o0_w2.wr W3
  have G1_0_w3 := G1_0_w2.other W3 (Or.inr (slot_ne (a0 := a0) (Or.inr (hw _ (List.mem_of_getElem? (i := 44) rfl))) (Or.inr (hw _ (List.mem_of_getElem? (i := 48) rfl))) (by decide) (t := .float) (t' := .boolean) (by decide) (by decide)))
  have F2_w3 := F2.other W3 (Or.inr (slot_ne (a0 := a0) (Or.inl (hw _ (List.mem_of_getElem? (i := 46) rfl))) (Or.inr (hw _ (List.mem_of_getElem? (i := 48) rfl))) (by decide) (t := .int) (t' := .boolean) (by decide) (by decide)))
  have K3 : Keep h0 h3 [o0] := (K2).wr W3 (Or.inl (List.mem_of_getElem? (i := 0) rfl))
  have N3 := Fr.snoc X3 N2 g_o0
  have Z3 : n0 ≤ h3.size := Nat.le_trans Z2 (Keep.of_wr W3).1
  have F3 : Fld Z h3 o0 "java/util/LinkedHashMap" "accessOrder" "Z" (.int (0 : Int32)) := G1_2_w2.same W3
  show OGo p e below s _ _ _ (T3.setTop (mkF m 14 #[.val (.ref o0)] []))
  exact oret0 X3 hx Bd.notSynchronized Bd.returns (hb hby d4_14) e3 ⟨rfl, N3, K3⟩ (by decide) (by decide)
theorem d8_0 : decode jdk_39_method_1_code 0 = .ok (.aload_n 0, 1) := by decide +kernel
theorem d8_1 : decode jdk_39_method_1_code 1 = .ok (.invokespecial 1, 3) := by decide +kernel
theorem d8_4 : decode jdk_39_method_1_code 4 = .ok (.aload_n 0, 1) := by decide +kernel
theorem d8_5 : decode jdk_39_method_1_code 5 = .ok (.iconst 0, 1) := by decide +kernel
theorem d8_6 : decode jdk_39_method_1_code 6 = .ok (.putfield 7, 3) := by decide +kernel
theorem d8_9 : decode jdk_39_method_1_code 9 = .ok (.return_, 1) := by decide +kernel
theorem pn_8 : plainName "java/util/AbstractList" = true := by first | (simp [plainName, overriddenIn]; done) | decide +kernel
theorem pd_8_0 : parseMethodDescriptor "()V" = some ⟨[], none⟩ := by decide +kernel
theorem ef_8 (m : MethodId) (o0 : Addr) : entryFrame m #[(.ref o0)] 1 = mkF m 0 #[.val (.ref o0)] [] := by first | (simp [entryFrame, mkF, argsToLocals, Value.category]; done) | rfl
def Q8 (Z : State) (o0 : Addr) (h0 : Heap) (n0 : Nat) (v : Option Value) (h : Heap) (L : List Loc) : Prop := v = none ∧ Fr n0 L ∧ Keep h0 h [o0] ∧ Fld Z h o0 "java/util/AbstractList" "modCount" "I" (.int (0 : Int32)) ∧ Fld Z h o0 "java/util/ArrayList" "elementData" "[Ljava/lang/Object;" .null
set_option maxRecDepth 65536 in
set_option maxHeartbeats 40000000 in
theorem rm8 (l : Launch) (Z : State) (a0 : Array Value) (hw : ∀ d ∈ tables_1, d.before a0 Z = true) (ws : List Jvm.Cond) (o0 : Addr) (h0 : Heap) (n0 : Nat) (Z0 : n0 ≤ h0.size) (E_o0 : Exa Z h0 o0 "java/util/ArrayList") (F_modCount : Fld Z h0 o0 "java/util/AbstractList" "modCount" "I" (.int (0 : Int32))) (F_elementData : Fld Z h0 o0 "java/util/ArrayList" "elementData" "[Ljava/lang/Object;" .null) (g_o0 : n0 ≤ o0) :
    MetFree l (⟨"java/util/AbstractList", "<init>", "()V"⟩ : MethodName) (head1 (Jvm.Cond.code (⟨"java/util/AbstractList", "<init>", "()V"⟩ : MethodName) jdk_39_method_1_code 1 none :: ws) ({ frames := 2, cells := 0, slots := 0, locals := 24 } : Room)) (fun a U => a = #[(.ref o0)] ∧ Z.Warmed39 U.vm ∧ U.heap = h0) (fun _ _ _ _ _ => True) (fun _ U o U' => ∃ v L, o = .returned v ∧ Q8 Z o0 h0 n0 v U'.heap L ∧ FrameEnd U o U' L ({ frames := 2, cells := 0, slots := 0, locals := 24 } : Room).cells ({ frames := 2, cells := 0, slots := 0, locals := 24 } : Room).slots) := by
  refine MetFree.of_bodySF (plainFor_of_name pn_8) hisR ?_
  intro p e s m args below meth c s₁ Bd hml0 hP hK
  obtain ⟨rfl, hZ, hh⟩ := hP
  have hx := Bd.exec
  have hby := Bd.bytes
  have hml : c.maxLocals = 1 := hml0
  have hown : s.vm.findClass "java/util/AbstractList" = some m.cls := findClass_of_methodNamed Bd.named
  have hnm := (name_of_methodNamed Bd.named Bd.method).1
  have X0 : Stand p l e ({ frames := 2, cells := 0, slots := 0, locals := 24 } : Room) s m #[(.ref o0)] below meth c s₁ [] 0 0 := Stand.of_body Bd
  have e0 : s₁.heap = h0 := by rw [← hh, Bd.state]; rfl
  have N0 := Fr.nil n0
  show OGo p e below s (Q8 Z o0 h0 n0) ({ frames := 2, cells := 0, slots := 0, locals := 24 } : Room).cells ({ frames := 2, cells := 0, slots := 0, locals := 24 } : Room).slots _
  refine OGo.st (fun _ k => castTop (ef_8 m o0) k) ?_
  show OGo p e below s _ _ _ (s₁.setTop (mkF m 0 #[.val (.ref o0)] []))
  refine OGo.st (fun _ k => XS.aloadN X0.here hx rfl (hb hby d8_0) rfl rfl k) ?_
  show OGo p e below s _ _ _ (s₁.setTop (mkF m 1 #[.val (.ref o0)] [(.ref o0)]))
  obtain ⟨_, _, ⟨T1, L1, k1, n1⟩, -, X1, ⟨Lc1, hQ1, l1, y1, z1⟩, st1⟩ := X0.specialBack hx (y := (⟨"java/util/AbstractCollection", "<init>", "()V"⟩ : MethodName)) rfl hown (mvT hZ (hw _ (List.mem_of_getElem? (i := 67) rfl))) (mvT hZ (hw _ (List.mem_of_getElem? (i := 68) rfl))) (mvT hZ (hw _ (List.mem_of_getElem? (i := 72) rfl))) (by decide) (backOf (W := 0) (rm9 l Z a0 hw [] o0 h0 n0 Z0) hZ (hw _ (List.mem_of_getElem? (i := 72) rfl)) (hw _ (List.mem_of_getElem? (i := 71) rfl)) (by decide) (by decide)) (g := (mkF m 1 #[.val (.ref o0)] [(.ref o0)])) rfl (by rw [hml]; rfl) (Steps.refl _) (a := o0) (argsL := []) (rest := []) (lenOf pd_8_0 rfl) rfl (by show 2 * 0 + _ ≤ _; exact Nat.le_of_eq rfl) (hb hby d8_1) (fun _ _ => ⟨rfl, e0, (by decide : 0 + 0 ≤ _), (by decide : 0 + 0 ≤ _)⟩)
  dsimp only [Pt.U, Pt.locs, Pt.cells, Pt.slots] at X1 l1 y1 z1 st1 hQ1
  subst l1 y1 z1
  obtain ⟨rfl, N1q, e1⟩ := hQ1
  have N1 := Fr.app N0 N1q
  refine OGo.st (fun _ k => st1.trans k) ?_
  show OGo p e below s _ _ _ (T1.setTop (mkF m 4 #[.val (.ref o0)] []))
  refine OGo.st (fun _ k => XS.aloadN X1.here hx rfl (hb hby d8_4) rfl rfl k) ?_
  show OGo p e below s _ _ _ (T1.setTop (mkF m 5 #[.val (.ref o0)] [(.ref o0)]))
  refine OGo.st (fun _ k => XS.iconst X1.here hx rfl (hb hby d8_5) k) ?_
  show OGo p e below s _ _ _ (T1.setTop (mkF m 6 #[.val (.ref o0)] [(.int (0 : Int32)), (.ref o0)]))
  obtain ⟨T2, h2, X2, e2, W2, st2⟩ := putF X1 hx hZ hown (host := "") (Or.inl (hw _ (List.mem_of_getElem? (i := 74) rfl))) Via.refl e1 F_modCount E_o0 (Or.inl (hw _ (List.mem_of_getElem? (i := 75) rfl))) (hw _ (List.mem_of_getElem? (i := 56) rfl)) (ty := .int) (by decide) rfl rfl (g := (mkF m 6 #[.val (.ref o0)] [(.int (0 : Int32)), (.ref o0)])) rfl rfl (hb hby d8_6)
  refine OGo.st st2 ?_
  have E_o0_w2 := E_o0.wr W2
  have F_elementData_w2 := F_elementData.other W2 (Or.inr (slot_ne (a0 := a0) (Or.inl (hw _ (List.mem_of_getElem? (i := 78) rfl))) (Or.inl (hw _ (List.mem_of_getElem? (i := 75) rfl))) (by decide) (t := (.array (.object "java/lang/Object"))) (t' := .int) (by decide) (by decide)))
  have K2 : Keep h0 h2 [o0] := (Keep.refl h0 _).wr W2 (Or.inl (List.mem_of_getElem? (i := 0) rfl))
  have N2 := Fr.snoc X2 N1 g_o0
  have Z2 : n0 ≤ h2.size := Nat.le_trans Z0 (Keep.of_wr W2).1
  have F2 : Fld Z h2 o0 "java/util/AbstractList" "modCount" "I" (.int (0 : Int32)) := F_modCount.same W2
  show OGo p e below s _ _ _ (T2.setTop (mkF m 9 #[.val (.ref o0)] []))
  exact oret0 X2 hx Bd.notSynchronized Bd.returns (hb hby d8_9) e2 ⟨rfl, N2, K2, F2, F_elementData_w2⟩ (by decide) (by decide)
theorem d7_0 : decode jdk_38_method_2_code 0 = .ok (.aload_n 0, 1) := by decide +kernel
theorem d7_1 : decode jdk_38_method_2_code 1 = .ok (.invokespecial 1, 3) := by decide +kernel
theorem d7_4 : decode jdk_38_method_2_code 4 = .ok (.aload_n 0, 1) := by decide +kernel
theorem d7_5 : decode jdk_38_method_2_code 5 = .ok (.getstatic 39, 3) := by decide +kernel
theorem d7_8 : decode jdk_38_method_2_code 8 = .ok (.putfield 9, 3) := by decide +kernel
theorem d7_11 : decode jdk_38_method_2_code 11 = .ok (.return_, 1) := by decide +kernel
theorem pn_7 : plainName "java/util/ArrayList" = true := by first | (simp [plainName, overriddenIn]; done) | decide +kernel
theorem pd_7_0 : parseMethodDescriptor "()V" = some ⟨[], none⟩ := by decide +kernel
theorem ef_7 (m : MethodId) (o0 : Addr) : entryFrame m #[(.ref o0)] 1 = mkF m 0 #[.val (.ref o0)] [] := by first | (simp [entryFrame, mkF, argsToLocals, Value.category]; done) | rfl
def Q7 (Z : State) (o0 : Addr) (w_D : Addr) (h0 : Heap) (n0 : Nat) (v : Option Value) (h : Heap) (L : List Loc) : Prop := v = none ∧ Fr n0 L ∧ Keep h0 h [o0]
set_option maxRecDepth 65536 in
set_option maxHeartbeats 40000000 in
theorem rm7 (l : Launch) (Z : State) (a0 : Array Value) (hw : ∀ d ∈ tables_1, d.before a0 Z = true) (ws : List Jvm.Cond) (o0 : Addr) (w_D : Addr) (h0 : Heap) (n0 : Nat) (Z0 : n0 ≤ h0.size) (E_o0 : Exa Z h0 o0 "java/util/ArrayList") (F_modCount : Fld Z h0 o0 "java/util/AbstractList" "modCount" "I" (.int (0 : Int32))) (F_elementData : Fld Z h0 o0 "java/util/ArrayList" "elementData" "[Ljava/lang/Object;" .null) (S_D : Sta Z h0 "java/util/ArrayList" "DEFAULTCAPACITY_EMPTY_ELEMENTDATA" "[Ljava/lang/Object;" (.ref w_D)) (g_o0 : n0 ≤ o0) :
    MetFree l (⟨"java/util/ArrayList", "<init>", "()V"⟩ : MethodName) (head1 (Jvm.Cond.code (⟨"java/util/ArrayList", "<init>", "()V"⟩ : MethodName) jdk_38_method_2_code 1 none :: ws) ({ frames := 3, cells := 0, slots := 0, locals := 36 } : Room)) (fun a U => a = #[(.ref o0)] ∧ Z.Warmed39 U.vm ∧ U.heap = h0) (fun _ _ _ _ _ => True) (fun _ U o U' => ∃ v L, o = .returned v ∧ Q7 Z o0 w_D h0 n0 v U'.heap L ∧ FrameEnd U o U' L ({ frames := 3, cells := 0, slots := 0, locals := 36 } : Room).cells ({ frames := 3, cells := 0, slots := 0, locals := 36 } : Room).slots) := by
  refine MetFree.of_bodySF (plainFor_of_name pn_7) hisR ?_
  intro p e s m args below meth c s₁ Bd hml0 hP hK
  obtain ⟨rfl, hZ, hh⟩ := hP
  have hx := Bd.exec
  have hby := Bd.bytes
  have hml : c.maxLocals = 1 := hml0
  have hown : s.vm.findClass "java/util/ArrayList" = some m.cls := findClass_of_methodNamed Bd.named
  have hnm := (name_of_methodNamed Bd.named Bd.method).1
  have X0 : Stand p l e ({ frames := 3, cells := 0, slots := 0, locals := 36 } : Room) s m #[(.ref o0)] below meth c s₁ [] 0 0 := Stand.of_body Bd
  have e0 : s₁.heap = h0 := by rw [← hh, Bd.state]; rfl
  have N0 := Fr.nil n0
  show OGo p e below s (Q7 Z o0 w_D h0 n0) ({ frames := 3, cells := 0, slots := 0, locals := 36 } : Room).cells ({ frames := 3, cells := 0, slots := 0, locals := 36 } : Room).slots _
  refine OGo.st (fun _ k => castTop (ef_7 m o0) k) ?_
  show OGo p e below s _ _ _ (s₁.setTop (mkF m 0 #[.val (.ref o0)] []))
  refine OGo.st (fun _ k => XS.aloadN X0.here hx rfl (hb hby d7_0) rfl rfl k) ?_
  show OGo p e below s _ _ _ (s₁.setTop (mkF m 1 #[.val (.ref o0)] [(.ref o0)]))
  obtain ⟨_, _, ⟨T1, L1, k1, n1⟩, -, X1, ⟨Lc1, hQ1, l1, y1, z1⟩, st1⟩ := X0.specialBack hx (y := (⟨"java/util/AbstractList", "<init>", "()V"⟩ : MethodName)) rfl hown (mvT hZ (hw _ (List.mem_of_getElem? (i := 61) rfl))) (mvT hZ (hw _ (List.mem_of_getElem? (i := 62) rfl))) (mvT hZ (hw _ (List.mem_of_getElem? (i := 66) rfl))) (by decide) (backOf (W := 0) (rm8 l Z a0 hw [] o0 h0 n0 Z0 E_o0 F_modCount F_elementData g_o0) hZ (hw _ (List.mem_of_getElem? (i := 66) rfl)) (hw _ (List.mem_of_getElem? (i := 65) rfl)) (by decide) (by decide)) (g := (mkF m 1 #[.val (.ref o0)] [(.ref o0)])) rfl (by rw [hml]; rfl) (Steps.refl _) (a := o0) (argsL := []) (rest := []) (lenOf pd_7_0 rfl) rfl (by show 2 * 0 + _ ≤ _; exact Nat.le_of_eq rfl) (hb hby d7_1) (fun _ _ => ⟨rfl, e0, (by decide : 0 + 0 ≤ _), (by decide : 0 + 0 ≤ _)⟩)
  dsimp only [Pt.U, Pt.locs, Pt.cells, Pt.slots] at X1 l1 y1 z1 st1 hQ1
  subst l1 y1 z1
  obtain ⟨rfl, N1q, Kc1, G1_0, G1_1⟩ := hQ1
  have E_o0_w1 := E_o0.keep Kc1
  have S_D_w1 := osta_keep S_D Kc1 (osta_exa E_o0 (fun _ _ _ _ => nin0))
  have K1 : Keep h0 T1.heap [o0] := (Keep.refl h0 _).trans Kc1 (allS (Or.inl (List.mem_of_getElem? (i := 0) rfl)) all0)
  have Z1 : n0 ≤ T1.heap.size := Nat.le_trans Z0 Kc1.1
  have N1 := Fr.app N0 N1q
  refine OGo.st (fun _ k => st1.trans k) ?_
  show OGo p e below s _ _ _ (T1.setTop (mkF m 4 #[.val (.ref o0)] []))
  refine OGo.st (fun _ k => XS.aloadN X1.here hx rfl (hb hby d7_4) rfl rfl k) ?_
  show OGo p e below s _ _ _ (T1.setTop (mkF m 5 #[.val (.ref o0)] [(.ref o0)]))
  obtain ⟨T2, X2, e2, st2⟩ := getS2 X1 hx hZ hown (host := "") (Or.inl (hw _ (List.mem_of_getElem? (i := 76) rfl))) Via.refl rfl S_D_w1 (g := (mkF m 5 #[.val (.ref o0)] [(.ref o0)])) rfl (hb hby d7_5)
  refine OGo.st st2 ?_
  show OGo p e below s _ _ _ (T2.setTop (mkF m 8 #[.val (.ref o0)] [(.ref w_D), (.ref o0)]))
  obtain ⟨T3, h3, X3, e3, W3, st3⟩ := putF X2 hx hZ hown (host := "") (Or.inl (hw _ (List.mem_of_getElem? (i := 77) rfl))) Via.refl e2 G1_1 E_o0_w1 (Or.inl (hw _ (List.mem_of_getElem? (i := 78) rfl))) (hw _ (List.mem_of_getElem? (i := 56) rfl)) (ty := (.array (.object "java/lang/Object"))) (by decide) rfl rfl (g := (mkF m 8 #[.val (.ref o0)] [(.ref w_D), (.ref o0)])) rfl rfl (hb hby d7_8)
  refine OGo.st st3 ?_
  have E_o0_w3 := E_o0_w1.wr W3
  have S_D_w3 := S_D_w1.wr W3
  have G1_0_w3 := G1_0.other W3 (Or.inr (slot_ne (a0 := a0) (Or.inl (hw _ (List.mem_of_getElem? (i := 75) rfl))) (Or.inl (hw _ (List.mem_of_getElem? (i := 78) rfl))) (by decide) (t := .int) (t' := (.array (.object "java/lang/Object"))) (by decide) (by decide)))
  have K3 : Keep h0 h3 [o0] := (K1).wr W3 (Or.inl (List.mem_of_getElem? (i := 0) rfl))
  have N3 := Fr.snoc X3 N1 g_o0
  have Z3 : n0 ≤ h3.size := Nat.le_trans Z1 (Keep.of_wr W3).1
  have F3 : Fld Z h3 o0 "java/util/ArrayList" "elementData" "[Ljava/lang/Object;" (.ref w_D) := G1_1.same W3
  show OGo p e below s _ _ _ (T3.setTop (mkF m 11 #[.val (.ref o0)] []))
  exact oret0 X3 hx Bd.notSynchronized Bd.returns (hb hby d7_11) e3 ⟨rfl, N3, K3⟩ (by decide) (by decide)
theorem d12_0 : decode jdk_93_method_1_code 0 = .ok (.aload_n 0, 1) := by decide +kernel
theorem d12_1 : decode jdk_93_method_1_code 1 = .ok (.invokespecial 1, 3) := by decide +kernel
theorem d12_4 : decode jdk_93_method_1_code 4 = .ok (.aload_n 0, 1) := by decide +kernel
theorem d12_5 : decode jdk_93_method_1_code 5 = .ok (.new 7, 3) := by decide +kernel
theorem d12_8 : decode jdk_93_method_1_code 8 = .ok (.dup, 1) := by decide +kernel
theorem d12_9 : decode jdk_93_method_1_code 9 = .ok (.invokespecial 9, 3) := by decide +kernel
theorem d12_12 : decode jdk_93_method_1_code 12 = .ok (.putfield 10, 3) := by decide +kernel
theorem d12_15 : decode jdk_93_method_1_code 15 = .ok (.return_, 1) := by decide +kernel
theorem pn_12 : plainName "java/util/HashSet" = true := by first | (simp [plainName, overriddenIn]; done) | decide +kernel
theorem pd_12_0 : parseMethodDescriptor "()V" = some ⟨[], none⟩ := by decide +kernel
theorem ef_12 (m : MethodId) (o0 : Addr) : entryFrame m #[(.ref o0)] 1 = mkF m 0 #[.val (.ref o0)] [] := by first | (simp [entryFrame, mkF, argsToLocals, Value.category]; done) | rfl
def Q12 (Z : State) (o0 : Addr) (h0 : Heap) (n0 : Nat) (v : Option Value) (h : Heap) (L : List Loc) : Prop := v = none ∧ Fr n0 L ∧ Keep h0 h [o0]
set_option maxRecDepth 65536 in
set_option maxHeartbeats 40000000 in
theorem rm12 (l : Launch) (Z : State) (a0 : Array Value) (hw : ∀ d ∈ tables_1, d.before a0 Z = true) (ws : List Jvm.Cond) (o0 : Addr) (h0 : Heap) (n0 : Nat) (Z0 : n0 ≤ h0.size) (E_o0 : Exa Z h0 o0 "java/util/HashSet") (F_map : Fld Z h0 o0 "java/util/HashSet" "map" "Ljava/util/HashMap;" .null) (g_o0 : n0 ≤ o0) :
    MetFree l (⟨"java/util/HashSet", "<init>", "()V"⟩ : MethodName) (head1 (Jvm.Cond.code (⟨"java/util/HashSet", "<init>", "()V"⟩ : MethodName) jdk_93_method_1_code 1 none :: ws) ({ frames := 3, cells := 1, slots := 8, locals := 38 } : Room)) (fun a U => a = #[(.ref o0)] ∧ Z.Warmed39 U.vm ∧ U.heap = h0) (fun _ _ _ _ _ => True) (fun _ U o U' => ∃ v L, o = .returned v ∧ Q12 Z o0 h0 n0 v U'.heap L ∧ FrameEnd U o U' L ({ frames := 3, cells := 1, slots := 8, locals := 38 } : Room).cells ({ frames := 3, cells := 1, slots := 8, locals := 38 } : Room).slots) := by
  refine MetFree.of_bodySF (plainFor_of_name pn_12) hisR ?_
  intro p e s m args below meth c s₁ Bd hml0 hP hK
  obtain ⟨rfl, hZ, hh⟩ := hP
  have hx := Bd.exec
  have hby := Bd.bytes
  have hml : c.maxLocals = 1 := hml0
  have hown : s.vm.findClass "java/util/HashSet" = some m.cls := findClass_of_methodNamed Bd.named
  have hnm := (name_of_methodNamed Bd.named Bd.method).1
  have X0 : Stand p l e ({ frames := 3, cells := 1, slots := 8, locals := 38 } : Room) s m #[(.ref o0)] below meth c s₁ [] 0 0 := Stand.of_body Bd
  have e0 : s₁.heap = h0 := by rw [← hh, Bd.state]; rfl
  have N0 := Fr.nil n0
  show OGo p e below s (Q12 Z o0 h0 n0) ({ frames := 3, cells := 1, slots := 8, locals := 38 } : Room).cells ({ frames := 3, cells := 1, slots := 8, locals := 38 } : Room).slots _
  refine OGo.st (fun _ k => castTop (ef_12 m o0) k) ?_
  show OGo p e below s _ _ _ (s₁.setTop (mkF m 0 #[.val (.ref o0)] []))
  refine OGo.st (fun _ k => XS.aloadN X0.here hx rfl (hb hby d12_0) rfl rfl k) ?_
  show OGo p e below s _ _ _ (s₁.setTop (mkF m 1 #[.val (.ref o0)] [(.ref o0)]))
  obtain ⟨_, _, ⟨T1, L1, k1, n1⟩, -, X1, ⟨Lc1, hQ1, l1, y1, z1⟩, st1⟩ := X0.specialBack hx (y := (⟨"java/util/AbstractSet", "<init>", "()V"⟩ : MethodName)) rfl hown (mvT hZ (hw _ (List.mem_of_getElem? (i := 129) rfl))) (mvT hZ (hw _ (List.mem_of_getElem? (i := 130) rfl))) (mvT hZ (hw _ (List.mem_of_getElem? (i := 134) rfl))) (by decide) (backOf (W := 0) (rm13 l Z a0 hw [] o0 h0 n0 Z0) hZ (hw _ (List.mem_of_getElem? (i := 134) rfl)) (hw _ (List.mem_of_getElem? (i := 133) rfl)) (by decide) (by decide)) (g := (mkF m 1 #[.val (.ref o0)] [(.ref o0)])) rfl (by rw [hml]; rfl) (Steps.refl _) (a := o0) (argsL := []) (rest := []) (lenOf pd_12_0 rfl) rfl (by show 2 * 0 + _ ≤ _; exact Nat.le_of_eq rfl) (hb hby d12_1) (fun _ _ => ⟨rfl, e0, (by decide : 0 + 0 ≤ _), (by decide : 0 + 0 ≤ _)⟩)
  dsimp only [Pt.U, Pt.locs, Pt.cells, Pt.slots] at X1 l1 y1 z1 st1 hQ1
  subst l1 y1 z1
  obtain ⟨rfl, N1q, e1⟩ := hQ1
  have N1 := Fr.app N0 N1q
  refine OGo.st (fun _ k => st1.trans k) ?_
  show OGo p e below s _ _ _ (T1.setTop (mkF m 4 #[.val (.ref o0)] []))
  refine OGo.st (fun _ k => XS.aloadN X1.here hx rfl (hb hby d12_4) rfl rfl k) ?_
  show OGo p e below s _ _ _ (T1.setTop (mkF m 5 #[.val (.ref o0)] [(.ref o0)]))
  obtain ⟨T2, h2, X2, e2, E2, A2, D2, U2, st2⟩ := newO X1 hx hZ hown (hw _ (List.mem_of_getElem? (i := 137) rfl)) (hw _ (List.mem_of_getElem? (i := 117) rfl)) (hw _ (List.mem_of_getElem? (i := 33) rfl)) e1 (g := (mkF m 5 #[.val (.ref o0)] [(.ref o0)])) rfl (hb hby d12_5) (by decide) (by decide)
  obtain ⟨b2, g2⟩ : ∃ z, z = h0.size := ⟨_, rfl⟩
  rw [← g2] at A2 D2 U2 st2
  refine OGo.st st2 ?_
  have E_o0_w2 := E_o0.ext E2
  have ne_o0_b2 : o0 ≠ b2 := Nat.ne_of_lt (Nat.lt_of_lt_of_le E_o0.lt (Nat.le_of_eq g2.symm))
  have F_map_w2 := F_map.ext E2
  have g_b2 : n0 ≤ b2 := Nat.le_trans Z0 (Nat.le_of_eq g2.symm)
  have sz_b2 : h0.size ≤ b2 := Nat.le_trans (Keep.refl h0 []).1 (Nat.le_of_eq g2.symm)
  have K2 : Keep h0 h2 [o0] := (Keep.refl h0 _).ext E2
  have Z2 : n0 ≤ h2.size := Nat.le_trans Z0 E2.1
  have F_loadFactor_b2 : Fld Z h2 b2 "java/util/HashMap" "loadFactor" "F" (.float 0) := D2 (Or.inr (hw _ (List.mem_of_getElem? (i := 120) rfl))) (ty := .float) (by decide)
  show OGo p e below s _ _ _ (T2.setTop (mkF m 8 #[.val (.ref o0)] [(.ref b2), (.ref o0)]))
  refine OGo.st (fun _ k => XS.dup X2.here hx rfl (hb hby d12_8) rfl rfl k) ?_
  show OGo p e below s _ _ _ (T2.setTop (mkF m 9 #[.val (.ref o0)] [(.ref b2), (.ref b2), (.ref o0)]))
  obtain ⟨_, _, ⟨T3, L3, k3, n3⟩, -, X3, ⟨Lc3, hQ3, l3, y3, z3⟩, st3⟩ := X2.specialBack hx (y := (⟨"java/util/HashMap", "<init>", "()V"⟩ : MethodName)) rfl hown (mvT hZ (hw _ (List.mem_of_getElem? (i := 138) rfl))) (mvT hZ (hw _ (List.mem_of_getElem? (i := 30) rfl))) (mvT hZ (hw _ (List.mem_of_getElem? (i := 34) rfl))) (by decide) (backOf (W := 2) (rm5H l Z a0 hw [] b2 h2 n0 Z2 A2 F_loadFactor_b2 g_b2) hZ (hw _ (List.mem_of_getElem? (i := 34) rfl)) (hw _ (List.mem_of_getElem? (i := 33) rfl)) (by decide) (by decide)) (g := (mkF m 9 #[.val (.ref o0)] [(.ref b2), (.ref b2), (.ref o0)])) rfl (by rw [hml]; rfl) (Steps.refl _) (a := b2) (argsL := []) (rest := [(.ref b2), (.ref o0)]) (lenOf pd_12_0 rfl) rfl (by show 2 * 0 + _ ≤ _; exact Nat.le_of_eq rfl) (hb hby d12_9) (fun _ _ => ⟨rfl, e2, (by decide : 1 + 0 ≤ _), (by decide : 8 + 0 ≤ _)⟩)
  dsimp only [Pt.U, Pt.locs, Pt.cells, Pt.slots] at X3 l3 y3 z3 st3 hQ3
  subst l3 y3 z3
  obtain ⟨rfl, N3q, Kc3⟩ := hQ3
  have E_o0_w3 := E_o0_w2.keep Kc3
  have F_map_w3 := F_map_w2.keep Kc3 (ninS ne_o0_b2 nin0)
  have A2_w3 := A2.keep Kc3
  have K3 : Keep h0 T3.heap [o0] := (K2).trans Kc3 (allS (Or.inr sz_b2) all0)
  have Z3 : n0 ≤ T3.heap.size := Nat.le_trans Z2 Kc3.1
  have N3 := Fr.app N1 N3q
  refine OGo.st (fun _ k => st3.trans k) ?_
  show OGo p e below s _ _ _ (T3.setTop (mkF m 12 #[.val (.ref o0)] [(.ref b2), (.ref o0)]))
  obtain ⟨T4, h4, X4, e4, W4, st4⟩ := putF X3 hx hZ hown (host := "") (Or.inl (hw _ (List.mem_of_getElem? (i := 140) rfl))) Via.refl rfl F_map_w3 E_o0_w3 (Or.inl (hw _ (List.mem_of_getElem? (i := 141) rfl))) (hw _ (List.mem_of_getElem? (i := 124) rfl)) (ty := (.object "java/util/HashMap")) (by decide) rfl rfl (g := (mkF m 12 #[.val (.ref o0)] [(.ref b2), (.ref o0)])) rfl rfl (hb hby d12_12)
  refine OGo.st st4 ?_
  have E_o0_w4 := E_o0_w3.wr W4
  have A2_w4 := A2_w3.wr W4
  have K4 : Keep h0 h4 [o0] := (K3).wr W4 (Or.inl (List.mem_of_getElem? (i := 0) rfl))
  have N4 := Fr.snoc X4 N3 g_o0
  have Z4 : n0 ≤ h4.size := Nat.le_trans Z3 (Keep.of_wr W4).1
  have F4 : Fld Z h4 o0 "java/util/HashSet" "map" "Ljava/util/HashMap;" (.ref b2) := F_map_w3.same W4
  show OGo p e below s _ _ _ (T4.setTop (mkF m 15 #[.val (.ref o0)] []))
  exact oret0 X4 hx Bd.notSynchronized Bd.returns (hb hby d12_15) e4 ⟨rfl, N4, K4⟩ (by decide) (by decide)
theorem d2_0 : decode prog_60_method_1_code 0 = .ok (.aload_n 0, 1) := by decide +kernel
theorem d2_1 : decode prog_60_method_1_code 1 = .ok (.invokespecial 1, 3) := by decide +kernel
theorem d2_4 : decode prog_60_method_1_code 4 = .ok (.aload_n 0, 1) := by decide +kernel
theorem d2_5 : decode prog_60_method_1_code 5 = .ok (.new 7, 3) := by decide +kernel
theorem d2_8 : decode prog_60_method_1_code 8 = .ok (.dup, 1) := by decide +kernel
theorem d2_9 : decode prog_60_method_1_code 9 = .ok (.invokespecial 9, 3) := by decide +kernel
theorem d2_12 : decode prog_60_method_1_code 12 = .ok (.putfield 10, 3) := by decide +kernel
theorem d2_15 : decode prog_60_method_1_code 15 = .ok (.aload_n 0, 1) := by decide +kernel
theorem d2_16 : decode prog_60_method_1_code 16 = .ok (.aload_n 1, 1) := by decide +kernel
theorem d2_17 : decode prog_60_method_1_code 17 = .ok (.putfield 16, 3) := by decide +kernel
theorem d2_20 : decode prog_60_method_1_code 20 = .ok (.aload_n 0, 1) := by decide +kernel
theorem d2_21 : decode prog_60_method_1_code 21 = .ok (.aload_n 2, 1) := by decide +kernel
theorem d2_22 : decode prog_60_method_1_code 22 = .ok (.putfield 20, 3) := by decide +kernel
theorem d2_25 : decode prog_60_method_1_code 25 = .ok (.return_, 1) := by decide +kernel
theorem pn_2 : plainName "com/example/pushout_bench/pushoutbench/graph/Element" = true := by first | (simp [plainName, overriddenIn]; done) | decide +kernel
theorem pd_2Node_0 : parseMethodDescriptor "()V" = some ⟨[], none⟩ := by decide +kernel
theorem ef_2Node (m : MethodId) (o0 : Addr) (o1 : Addr) (o2 : Addr) : entryFrame m #[(.ref o0), (.ref o1), (.ref o2)] 3 = mkF m 0 #[.val (.ref o0), .val (.ref o1), .val (.ref o2)] [] := by first | (simp [entryFrame, mkF, argsToLocals, Value.category]; done) | rfl
def Q2Node (Z : State) (o0 : Addr) (o1 : Addr) (o2 : Addr) (h0 : Heap) (n0 : Nat) (v : Option Value) (h : Heap) (L : List Loc) : Prop := v = none ∧ Fr n0 L ∧ Keep h0 h [o0] ∧ Fld Z h o0 "com/example/pushout_bench/pushoutbench/graph/Node" "outgoing" "Ljava/util/List;" .null ∧ Fld Z h o0 "com/example/pushout_bench/pushoutbench/graph/Node" "incoming" "Ljava/util/List;" .null ∧ Fld Z h o0 "com/example/pushout_bench/pushoutbench/graph/Element" "serial" "J" (.long (0 : Int64))
set_option maxRecDepth 65536 in
set_option maxHeartbeats 40000000 in
theorem rm2Node (l : Launch) (Z : State) (a0 : Array Value) (hw : ∀ d ∈ tables_1, d.before a0 Z = true) (ws : List Jvm.Cond) (o0 : Addr) (o1 : Addr) (o2 : Addr) (h0 : Heap) (n0 : Nat) (Z0 : n0 ≤ h0.size) (E_o0 : Exa Z h0 o0 "com/example/pushout_bench/pushoutbench/graph/Node") (F_attributes : Fld Z h0 o0 "com/example/pushout_bench/pushoutbench/graph/Element" "attributes" "Ljava/util/Map;" .null) (F_id : Fld Z h0 o0 "com/example/pushout_bench/pushoutbench/graph/Element" "id" "Ljava/lang/String;" .null) (F_type : Fld Z h0 o0 "com/example/pushout_bench/pushoutbench/graph/Element" "type" "Ljava/lang/String;" .null) (F_outgoing : Fld Z h0 o0 "com/example/pushout_bench/pushoutbench/graph/Node" "outgoing" "Ljava/util/List;" .null) (F_incoming : Fld Z h0 o0 "com/example/pushout_bench/pushoutbench/graph/Node" "incoming" "Ljava/util/List;" .null) (F_serial : Fld Z h0 o0 "com/example/pushout_bench/pushoutbench/graph/Element" "serial" "J" (.long (0 : Int64))) (g_o0 : n0 ≤ o0) :
    MetFree l (⟨"com/example/pushout_bench/pushoutbench/graph/Element", "<init>", "(Ljava/lang/String;Ljava/lang/String;)V"⟩ : MethodName) (head1 (Jvm.Cond.code (⟨"com/example/pushout_bench/pushoutbench/graph/Element", "<init>", "(Ljava/lang/String;Ljava/lang/String;)V"⟩ : MethodName) prog_60_method_1_code 3 none :: ws) ({ frames := 4, cells := 1, slots := 12, locals := 50 } : Room)) (fun a U => a = #[(.ref o0), (.ref o1), (.ref o2)] ∧ Z.Warmed39 U.vm ∧ U.heap = h0) (fun _ _ _ _ _ => True) (fun _ U o U' => ∃ v L, o = .returned v ∧ Q2Node Z o0 o1 o2 h0 n0 v U'.heap L ∧ FrameEnd U o U' L ({ frames := 4, cells := 1, slots := 12, locals := 50 } : Room).cells ({ frames := 4, cells := 1, slots := 12, locals := 50 } : Room).slots) := by
  refine MetFree.of_bodySF (plainFor_of_name pn_2) hisR ?_
  intro p e s m args below meth c s₁ Bd hml0 hP hK
  obtain ⟨rfl, hZ, hh⟩ := hP
  have hx := Bd.exec
  have hby := Bd.bytes
  have hml : c.maxLocals = 3 := hml0
  have hown : s.vm.findClass "com/example/pushout_bench/pushoutbench/graph/Element" = some m.cls := findClass_of_methodNamed Bd.named
  have hnm := (name_of_methodNamed Bd.named Bd.method).1
  have X0 : Stand p l e ({ frames := 4, cells := 1, slots := 12, locals := 50 } : Room) s m #[(.ref o0), (.ref o1), (.ref o2)] below meth c s₁ [] 0 0 := Stand.of_body Bd
  have e0 : s₁.heap = h0 := by rw [← hh, Bd.state]; rfl
  have N0 := Fr.nil n0
  show OGo p e below s (Q2Node Z o0 o1 o2 h0 n0) ({ frames := 4, cells := 1, slots := 12, locals := 50 } : Room).cells ({ frames := 4, cells := 1, slots := 12, locals := 50 } : Room).slots _
  refine OGo.st (fun _ k => castTop (ef_2Node m o0 o1 o2) k) ?_
  show OGo p e below s _ _ _ (s₁.setTop (mkF m 0 #[.val (.ref o0), .val (.ref o1), .val (.ref o2)] []))
  refine OGo.st (fun _ k => XS.aloadN X0.here hx rfl (hb hby d2_0) rfl rfl k) ?_
  show OGo p e below s _ _ _ (s₁.setTop (mkF m 1 #[.val (.ref o0), .val (.ref o1), .val (.ref o2)] [(.ref o0)]))
  obtain ⟨T1, X1, e1, st1⟩ := initO X0 hx hZ hown (hw _ (List.mem_of_getElem? (i := 20) rfl)) (hw _ (List.mem_of_getElem? (i := 21) rfl)) (hw _ (List.mem_of_getElem? (i := 22) rfl)) e0 (g := (mkF m 1 #[.val (.ref o0), .val (.ref o1), .val (.ref o2)] [(.ref o0)])) rfl (by rw [hml]; rfl) rfl (hb hby d2_1) (by decide) (W := 0) (by show 2 * 0 + _ ≤ _; exact Nat.le_of_eq rfl) (by decide)
  refine OGo.st st1 ?_
  show OGo p e below s _ _ _ (T1.setTop (mkF m 4 #[.val (.ref o0), .val (.ref o1), .val (.ref o2)] []))
  refine OGo.st (fun _ k => XS.aloadN X1.here hx rfl (hb hby d2_4) rfl rfl k) ?_
  show OGo p e below s _ _ _ (T1.setTop (mkF m 5 #[.val (.ref o0), .val (.ref o1), .val (.ref o2)] [(.ref o0)]))
  obtain ⟨T2, h2, X2, e2, E2, A2, D2, U2, st2⟩ := newO X1 hx hZ hown (hw _ (List.mem_of_getElem? (i := 23) rfl)) (hw _ (List.mem_of_getElem? (i := 24) rfl)) (hw _ (List.mem_of_getElem? (i := 25) rfl)) e1 (g := (mkF m 5 #[.val (.ref o0), .val (.ref o1), .val (.ref o2)] [(.ref o0)])) rfl (hb hby d2_5) (by decide) (by decide)
  obtain ⟨b2, g2⟩ : ∃ z, z = h0.size := ⟨_, rfl⟩
  rw [← g2] at A2 D2 U2 st2
  refine OGo.st st2 ?_
  have E_o0_w2 := E_o0.ext E2
  have ne_o0_b2 : o0 ≠ b2 := Nat.ne_of_lt (Nat.lt_of_lt_of_le E_o0.lt (Nat.le_of_eq g2.symm))
  have F_attributes_w2 := F_attributes.ext E2
  have F_id_w2 := F_id.ext E2
  have F_type_w2 := F_type.ext E2
  have F_outgoing_w2 := F_outgoing.ext E2
  have F_incoming_w2 := F_incoming.ext E2
  have F_serial_w2 := F_serial.ext E2
  have g_b2 : n0 ≤ b2 := Nat.le_trans Z0 (Nat.le_of_eq g2.symm)
  have sz_b2 : h0.size ≤ b2 := Nat.le_trans (Keep.refl h0 []).1 (Nat.le_of_eq g2.symm)
  have K2 : Keep h0 h2 [o0] := (Keep.refl h0 _).ext E2
  have Z2 : n0 ≤ h2.size := Nat.le_trans Z0 E2.1
  have F_loadFactor_b2 : Fld Z h2 b2 "java/util/HashMap" "loadFactor" "F" (.float 0) := D2 (Or.inr (hw _ (List.mem_of_getElem? (i := 44) rfl))) (ty := .float) (by decide)
  have F_putMode_b2 : Fld Z h2 b2 "java/util/LinkedHashMap" "putMode" "I" (.int (0 : Int32)) := D2 (Or.inl (hw _ (List.mem_of_getElem? (i := 46) rfl))) (ty := .int) (by decide)
  have F_accessOrder_b2 : Fld Z h2 b2 "java/util/LinkedHashMap" "accessOrder" "Z" (.int (0 : Int32)) := D2 (Or.inr (hw _ (List.mem_of_getElem? (i := 48) rfl))) (ty := .boolean) (by decide)
  show OGo p e below s _ _ _ (T2.setTop (mkF m 8 #[.val (.ref o0), .val (.ref o1), .val (.ref o2)] [(.ref b2), (.ref o0)]))
  refine OGo.st (fun _ k => XS.dup X2.here hx rfl (hb hby d2_8) rfl rfl k) ?_
  show OGo p e below s _ _ _ (T2.setTop (mkF m 9 #[.val (.ref o0), .val (.ref o1), .val (.ref o2)] [(.ref b2), (.ref b2), (.ref o0)]))
  obtain ⟨_, _, ⟨T3, L3, k3, n3⟩, -, X3, ⟨Lc3, hQ3, l3, y3, z3⟩, st3⟩ := X2.specialBack hx (y := (⟨"java/util/LinkedHashMap", "<init>", "()V"⟩ : MethodName)) rfl hown (mvT hZ (hw _ (List.mem_of_getElem? (i := 26) rfl))) (mvT hZ (hw _ (List.mem_of_getElem? (i := 27) rfl))) (mvT hZ (hw _ (List.mem_of_getElem? (i := 28) rfl))) (by decide) (backOf (W := 2) (rm4 l Z a0 hw [] b2 h2 n0 Z2 A2 F_loadFactor_b2 F_putMode_b2 F_accessOrder_b2 g_b2) hZ (hw _ (List.mem_of_getElem? (i := 28) rfl)) (hw _ (List.mem_of_getElem? (i := 25) rfl)) (by decide) (by decide)) (g := (mkF m 9 #[.val (.ref o0), .val (.ref o1), .val (.ref o2)] [(.ref b2), (.ref b2), (.ref o0)])) rfl (by rw [hml]; rfl) (Steps.refl _) (a := b2) (argsL := []) (rest := [(.ref b2), (.ref o0)]) (lenOf pd_2Node_0 rfl) rfl (by show 2 * 0 + _ ≤ _; exact Nat.le_of_eq rfl) (hb hby d2_9) (fun _ _ => ⟨rfl, e2, (by decide : 1 + 0 ≤ _), (by decide : 12 + 0 ≤ _)⟩)
  dsimp only [Pt.U, Pt.locs, Pt.cells, Pt.slots] at X3 l3 y3 z3 st3 hQ3
  subst l3 y3 z3
  obtain ⟨rfl, N3q, Kc3⟩ := hQ3
  have E_o0_w3 := E_o0_w2.keep Kc3
  have F_attributes_w3 := F_attributes_w2.keep Kc3 (ninS ne_o0_b2 nin0)
  have F_id_w3 := F_id_w2.keep Kc3 (ninS ne_o0_b2 nin0)
  have F_type_w3 := F_type_w2.keep Kc3 (ninS ne_o0_b2 nin0)
  have F_outgoing_w3 := F_outgoing_w2.keep Kc3 (ninS ne_o0_b2 nin0)
  have F_incoming_w3 := F_incoming_w2.keep Kc3 (ninS ne_o0_b2 nin0)
  have F_serial_w3 := F_serial_w2.keep Kc3 (ninS ne_o0_b2 nin0)
  have A2_w3 := A2.keep Kc3
  have K3 : Keep h0 T3.heap [o0] := (K2).trans Kc3 (allS (Or.inr sz_b2) all0)
  have Z3 : n0 ≤ T3.heap.size := Nat.le_trans Z2 Kc3.1
  have N3 := Fr.app N0 N3q
  refine OGo.st (fun _ k => st3.trans k) ?_
  show OGo p e below s _ _ _ (T3.setTop (mkF m 12 #[.val (.ref o0), .val (.ref o1), .val (.ref o2)] [(.ref b2), (.ref o0)]))
  obtain ⟨T4, h4, X4, e4, W4, st4⟩ := putF X3 hx hZ hown (host := "") (Or.inl (hw _ (List.mem_of_getElem? (i := 49) rfl))) Via.refl rfl F_attributes_w3 E_o0_w3 (Or.inr ⟨(hw _ (List.mem_of_getElem? (i := 50) rfl)), rfl, hnm⟩) (hw _ (List.mem_of_getElem? (i := 1) rfl)) (ty := (.object "java/util/Map")) (by decide) rfl rfl (g := (mkF m 12 #[.val (.ref o0), .val (.ref o1), .val (.ref o2)] [(.ref b2), (.ref o0)])) rfl rfl (hb hby d2_12)
  refine OGo.st st4 ?_
  have E_o0_w4 := E_o0_w3.wr W4
  have F_id_w4 := F_id_w3.other W4 (Or.inr (slot_ne (a0 := a0) (Or.inr (hw _ (List.mem_of_getElem? (i := 52) rfl))) (Or.inr (hw _ (List.mem_of_getElem? (i := 50) rfl))) (by decide) (t := (.object "java/lang/String")) (t' := (.object "java/util/Map")) (by decide) (by decide)))
  have F_type_w4 := F_type_w3.other W4 (Or.inr (slot_ne (a0 := a0) (Or.inr (hw _ (List.mem_of_getElem? (i := 54) rfl))) (Or.inr (hw _ (List.mem_of_getElem? (i := 50) rfl))) (by decide) (t := (.object "java/lang/String")) (t' := (.object "java/util/Map")) (by decide) (by decide)))
  have F_outgoing_w4 := F_outgoing_w3.other W4 (Or.inr (slot_ne (a0 := a0) (Or.inr (hw _ (List.mem_of_getElem? (i := 80) rfl))) (Or.inr (hw _ (List.mem_of_getElem? (i := 50) rfl))) (by decide) (t := (.object "java/util/List")) (t' := (.object "java/util/Map")) (by decide) (by decide)))
  have F_incoming_w4 := F_incoming_w3.other W4 (Or.inr (slot_ne (a0 := a0) (Or.inr (hw _ (List.mem_of_getElem? (i := 82) rfl))) (Or.inr (hw _ (List.mem_of_getElem? (i := 50) rfl))) (by decide) (t := (.object "java/util/List")) (t' := (.object "java/util/Map")) (by decide) (by decide)))
  have F_serial_w4 := F_serial_w3.other W4 (Or.inr (slot_ne (a0 := a0) (Or.inl (hw _ (List.mem_of_getElem? (i := 85) rfl))) (Or.inr (hw _ (List.mem_of_getElem? (i := 50) rfl))) (by decide) (t := .long) (t' := (.object "java/util/Map")) (by decide) (by decide)))
  have A2_w4 := A2_w3.wr W4
  have K4 : Keep h0 h4 [o0] := (K3).wr W4 (Or.inl (List.mem_of_getElem? (i := 0) rfl))
  have N4 := Fr.snoc X4 N3 g_o0
  have Z4 : n0 ≤ h4.size := Nat.le_trans Z3 (Keep.of_wr W4).1
  have F4 : Fld Z h4 o0 "com/example/pushout_bench/pushoutbench/graph/Element" "attributes" "Ljava/util/Map;" (.ref b2) := F_attributes_w3.same W4
  show OGo p e below s _ _ _ (T4.setTop (mkF m 15 #[.val (.ref o0), .val (.ref o1), .val (.ref o2)] []))
  refine OGo.st (fun _ k => XS.aloadN X4.here hx rfl (hb hby d2_15) rfl rfl k) ?_
  show OGo p e below s _ _ _ (T4.setTop (mkF m 16 #[.val (.ref o0), .val (.ref o1), .val (.ref o2)] [(.ref o0)]))
  refine OGo.st (fun _ k => XS.aloadN X4.here hx rfl (hb hby d2_16) rfl rfl k) ?_
  show OGo p e below s _ _ _ (T4.setTop (mkF m 17 #[.val (.ref o0), .val (.ref o1), .val (.ref o2)] [(.ref o1), (.ref o0)]))
  obtain ⟨T5, h5, X5, e5, W5, st5⟩ := putF X4 hx hZ hown (host := "") (Or.inl (hw _ (List.mem_of_getElem? (i := 51) rfl))) Via.refl e4 F_id_w4 E_o0_w4 (Or.inr ⟨(hw _ (List.mem_of_getElem? (i := 52) rfl)), rfl, hnm⟩) (hw _ (List.mem_of_getElem? (i := 1) rfl)) (ty := (.object "java/lang/String")) (by decide) rfl rfl (g := (mkF m 17 #[.val (.ref o0), .val (.ref o1), .val (.ref o2)] [(.ref o1), (.ref o0)])) rfl rfl (hb hby d2_17)
  refine OGo.st st5 ?_
  have E_o0_w5 := E_o0_w4.wr W5
  have F4_w5 := F4.other W5 (Or.inr (slot_ne (a0 := a0) (Or.inr (hw _ (List.mem_of_getElem? (i := 50) rfl))) (Or.inr (hw _ (List.mem_of_getElem? (i := 52) rfl))) (by decide) (t := (.object "java/util/Map")) (t' := (.object "java/lang/String")) (by decide) (by decide)))
  have F_type_w5 := F_type_w4.other W5 (Or.inr (slot_ne (a0 := a0) (Or.inr (hw _ (List.mem_of_getElem? (i := 54) rfl))) (Or.inr (hw _ (List.mem_of_getElem? (i := 52) rfl))) (by decide) (t := (.object "java/lang/String")) (t' := (.object "java/lang/String")) (by decide) (by decide)))
  have F_outgoing_w5 := F_outgoing_w4.other W5 (Or.inr (slot_ne (a0 := a0) (Or.inr (hw _ (List.mem_of_getElem? (i := 80) rfl))) (Or.inr (hw _ (List.mem_of_getElem? (i := 52) rfl))) (by decide) (t := (.object "java/util/List")) (t' := (.object "java/lang/String")) (by decide) (by decide)))
  have F_incoming_w5 := F_incoming_w4.other W5 (Or.inr (slot_ne (a0 := a0) (Or.inr (hw _ (List.mem_of_getElem? (i := 82) rfl))) (Or.inr (hw _ (List.mem_of_getElem? (i := 52) rfl))) (by decide) (t := (.object "java/util/List")) (t' := (.object "java/lang/String")) (by decide) (by decide)))
  have F_serial_w5 := F_serial_w4.other W5 (Or.inr (slot_ne (a0 := a0) (Or.inl (hw _ (List.mem_of_getElem? (i := 85) rfl))) (Or.inr (hw _ (List.mem_of_getElem? (i := 52) rfl))) (by decide) (t := .long) (t' := (.object "java/lang/String")) (by decide) (by decide)))
  have A2_w5 := A2_w4.wr W5
  have K5 : Keep h0 h5 [o0] := (K4).wr W5 (Or.inl (List.mem_of_getElem? (i := 0) rfl))
  have N5 := Fr.snoc X5 N4 g_o0
  have Z5 : n0 ≤ h5.size := Nat.le_trans Z4 (Keep.of_wr W5).1
  have F5 : Fld Z h5 o0 "com/example/pushout_bench/pushoutbench/graph/Element" "id" "Ljava/lang/String;" (.ref o1) := F_id_w4.same W5
  show OGo p e below s _ _ _ (T5.setTop (mkF m 20 #[.val (.ref o0), .val (.ref o1), .val (.ref o2)] []))
  refine OGo.st (fun _ k => XS.aloadN X5.here hx rfl (hb hby d2_20) rfl rfl k) ?_
  show OGo p e below s _ _ _ (T5.setTop (mkF m 21 #[.val (.ref o0), .val (.ref o1), .val (.ref o2)] [(.ref o0)]))
  refine OGo.st (fun _ k => XS.aloadN X5.here hx rfl (hb hby d2_21) rfl rfl k) ?_
  show OGo p e below s _ _ _ (T5.setTop (mkF m 22 #[.val (.ref o0), .val (.ref o1), .val (.ref o2)] [(.ref o2), (.ref o0)]))
  obtain ⟨T6, h6, X6, e6, W6, st6⟩ := putF X5 hx hZ hown (host := "") (Or.inl (hw _ (List.mem_of_getElem? (i := 53) rfl))) Via.refl e5 F_type_w5 E_o0_w5 (Or.inr ⟨(hw _ (List.mem_of_getElem? (i := 54) rfl)), rfl, hnm⟩) (hw _ (List.mem_of_getElem? (i := 1) rfl)) (ty := (.object "java/lang/String")) (by decide) rfl rfl (g := (mkF m 22 #[.val (.ref o0), .val (.ref o1), .val (.ref o2)] [(.ref o2), (.ref o0)])) rfl rfl (hb hby d2_22)
  refine OGo.st st6 ?_
  have E_o0_w6 := E_o0_w5.wr W6
  have F4_w6 := F4_w5.other W6 (Or.inr (slot_ne (a0 := a0) (Or.inr (hw _ (List.mem_of_getElem? (i := 50) rfl))) (Or.inr (hw _ (List.mem_of_getElem? (i := 54) rfl))) (by decide) (t := (.object "java/util/Map")) (t' := (.object "java/lang/String")) (by decide) (by decide)))
  have F5_w6 := F5.other W6 (Or.inr (slot_ne (a0 := a0) (Or.inr (hw _ (List.mem_of_getElem? (i := 52) rfl))) (Or.inr (hw _ (List.mem_of_getElem? (i := 54) rfl))) (by decide) (t := (.object "java/lang/String")) (t' := (.object "java/lang/String")) (by decide) (by decide)))
  have F_outgoing_w6 := F_outgoing_w5.other W6 (Or.inr (slot_ne (a0 := a0) (Or.inr (hw _ (List.mem_of_getElem? (i := 80) rfl))) (Or.inr (hw _ (List.mem_of_getElem? (i := 54) rfl))) (by decide) (t := (.object "java/util/List")) (t' := (.object "java/lang/String")) (by decide) (by decide)))
  have F_incoming_w6 := F_incoming_w5.other W6 (Or.inr (slot_ne (a0 := a0) (Or.inr (hw _ (List.mem_of_getElem? (i := 82) rfl))) (Or.inr (hw _ (List.mem_of_getElem? (i := 54) rfl))) (by decide) (t := (.object "java/util/List")) (t' := (.object "java/lang/String")) (by decide) (by decide)))
  have F_serial_w6 := F_serial_w5.other W6 (Or.inr (slot_ne (a0 := a0) (Or.inl (hw _ (List.mem_of_getElem? (i := 85) rfl))) (Or.inr (hw _ (List.mem_of_getElem? (i := 54) rfl))) (by decide) (t := .long) (t' := (.object "java/lang/String")) (by decide) (by decide)))
  have A2_w6 := A2_w5.wr W6
  have K6 : Keep h0 h6 [o0] := (K5).wr W6 (Or.inl (List.mem_of_getElem? (i := 0) rfl))
  have N6 := Fr.snoc X6 N5 g_o0
  have Z6 : n0 ≤ h6.size := Nat.le_trans Z5 (Keep.of_wr W6).1
  have F6 : Fld Z h6 o0 "com/example/pushout_bench/pushoutbench/graph/Element" "type" "Ljava/lang/String;" (.ref o2) := F_type_w5.same W6
  show OGo p e below s _ _ _ (T6.setTop (mkF m 25 #[.val (.ref o0), .val (.ref o1), .val (.ref o2)] []))
  exact oret0 X6 hx Bd.notSynchronized Bd.returns (hb hby d2_25) e6 ⟨rfl, N6, K6, F_outgoing_w6, F_incoming_w6, F_serial_w6⟩ (by decide) (by decide)
theorem pd_2Edge_0 : parseMethodDescriptor "()V" = some ⟨[], none⟩ := by decide +kernel
theorem ef_2Edge (m : MethodId) (o0 : Addr) (o1 : Addr) (o2 : Addr) : entryFrame m #[(.ref o0), (.ref o1), (.ref o2)] 3 = mkF m 0 #[.val (.ref o0), .val (.ref o1), .val (.ref o2)] [] := by first | (simp [entryFrame, mkF, argsToLocals, Value.category]; done) | rfl
def Q2Edge (Z : State) (o0 : Addr) (o1 : Addr) (o2 : Addr) (h0 : Heap) (n0 : Nat) (v : Option Value) (h : Heap) (L : List Loc) : Prop := v = none ∧ Fr n0 L ∧ Keep h0 h [o0] ∧ Fld Z h o0 "com/example/pushout_bench/pushoutbench/graph/Edge" "source" "Lcom/example/pushout_bench/pushoutbench/graph/Node;" .null ∧ Fld Z h o0 "com/example/pushout_bench/pushoutbench/graph/Edge" "target" "Lcom/example/pushout_bench/pushoutbench/graph/Node;" .null ∧ Fld Z h o0 "com/example/pushout_bench/pushoutbench/graph/Element" "serial" "J" (.long (0 : Int64))
set_option maxRecDepth 65536 in
set_option maxHeartbeats 40000000 in
theorem rm2Edge (l : Launch) (Z : State) (a0 : Array Value) (hw : ∀ d ∈ tables_1, d.before a0 Z = true) (ws : List Jvm.Cond) (o0 : Addr) (o1 : Addr) (o2 : Addr) (h0 : Heap) (n0 : Nat) (Z0 : n0 ≤ h0.size) (E_o0 : Exa Z h0 o0 "com/example/pushout_bench/pushoutbench/graph/Edge") (F_attributes : Fld Z h0 o0 "com/example/pushout_bench/pushoutbench/graph/Element" "attributes" "Ljava/util/Map;" .null) (F_id : Fld Z h0 o0 "com/example/pushout_bench/pushoutbench/graph/Element" "id" "Ljava/lang/String;" .null) (F_type : Fld Z h0 o0 "com/example/pushout_bench/pushoutbench/graph/Element" "type" "Ljava/lang/String;" .null) (F_source : Fld Z h0 o0 "com/example/pushout_bench/pushoutbench/graph/Edge" "source" "Lcom/example/pushout_bench/pushoutbench/graph/Node;" .null) (F_target : Fld Z h0 o0 "com/example/pushout_bench/pushoutbench/graph/Edge" "target" "Lcom/example/pushout_bench/pushoutbench/graph/Node;" .null) (F_serial : Fld Z h0 o0 "com/example/pushout_bench/pushoutbench/graph/Element" "serial" "J" (.long (0 : Int64))) (g_o0 : n0 ≤ o0) :
    MetFree l (⟨"com/example/pushout_bench/pushoutbench/graph/Element", "<init>", "(Ljava/lang/String;Ljava/lang/String;)V"⟩ : MethodName) (head1 (Jvm.Cond.code (⟨"com/example/pushout_bench/pushoutbench/graph/Element", "<init>", "(Ljava/lang/String;Ljava/lang/String;)V"⟩ : MethodName) prog_60_method_1_code 3 none :: ws) ({ frames := 4, cells := 1, slots := 12, locals := 50 } : Room)) (fun a U => a = #[(.ref o0), (.ref o1), (.ref o2)] ∧ Z.Warmed39 U.vm ∧ U.heap = h0) (fun _ _ _ _ _ => True) (fun _ U o U' => ∃ v L, o = .returned v ∧ Q2Edge Z o0 o1 o2 h0 n0 v U'.heap L ∧ FrameEnd U o U' L ({ frames := 4, cells := 1, slots := 12, locals := 50 } : Room).cells ({ frames := 4, cells := 1, slots := 12, locals := 50 } : Room).slots) := by
  refine MetFree.of_bodySF (plainFor_of_name pn_2) hisR ?_
  intro p e s m args below meth c s₁ Bd hml0 hP hK
  obtain ⟨rfl, hZ, hh⟩ := hP
  have hx := Bd.exec
  have hby := Bd.bytes
  have hml : c.maxLocals = 3 := hml0
  have hown : s.vm.findClass "com/example/pushout_bench/pushoutbench/graph/Element" = some m.cls := findClass_of_methodNamed Bd.named
  have hnm := (name_of_methodNamed Bd.named Bd.method).1
  have X0 : Stand p l e ({ frames := 4, cells := 1, slots := 12, locals := 50 } : Room) s m #[(.ref o0), (.ref o1), (.ref o2)] below meth c s₁ [] 0 0 := Stand.of_body Bd
  have e0 : s₁.heap = h0 := by rw [← hh, Bd.state]; rfl
  have N0 := Fr.nil n0
  show OGo p e below s (Q2Edge Z o0 o1 o2 h0 n0) ({ frames := 4, cells := 1, slots := 12, locals := 50 } : Room).cells ({ frames := 4, cells := 1, slots := 12, locals := 50 } : Room).slots _
  refine OGo.st (fun _ k => castTop (ef_2Edge m o0 o1 o2) k) ?_
  show OGo p e below s _ _ _ (s₁.setTop (mkF m 0 #[.val (.ref o0), .val (.ref o1), .val (.ref o2)] []))
  refine OGo.st (fun _ k => XS.aloadN X0.here hx rfl (hb hby d2_0) rfl rfl k) ?_
  show OGo p e below s _ _ _ (s₁.setTop (mkF m 1 #[.val (.ref o0), .val (.ref o1), .val (.ref o2)] [(.ref o0)]))
  obtain ⟨T1, X1, e1, st1⟩ := initO X0 hx hZ hown (hw _ (List.mem_of_getElem? (i := 20) rfl)) (hw _ (List.mem_of_getElem? (i := 21) rfl)) (hw _ (List.mem_of_getElem? (i := 22) rfl)) e0 (g := (mkF m 1 #[.val (.ref o0), .val (.ref o1), .val (.ref o2)] [(.ref o0)])) rfl (by rw [hml]; rfl) rfl (hb hby d2_1) (by decide) (W := 0) (by show 2 * 0 + _ ≤ _; exact Nat.le_of_eq rfl) (by decide)
  refine OGo.st st1 ?_
  show OGo p e below s _ _ _ (T1.setTop (mkF m 4 #[.val (.ref o0), .val (.ref o1), .val (.ref o2)] []))
  refine OGo.st (fun _ k => XS.aloadN X1.here hx rfl (hb hby d2_4) rfl rfl k) ?_
  show OGo p e below s _ _ _ (T1.setTop (mkF m 5 #[.val (.ref o0), .val (.ref o1), .val (.ref o2)] [(.ref o0)]))
  obtain ⟨T2, h2, X2, e2, E2, A2, D2, U2, st2⟩ := newO X1 hx hZ hown (hw _ (List.mem_of_getElem? (i := 23) rfl)) (hw _ (List.mem_of_getElem? (i := 24) rfl)) (hw _ (List.mem_of_getElem? (i := 25) rfl)) e1 (g := (mkF m 5 #[.val (.ref o0), .val (.ref o1), .val (.ref o2)] [(.ref o0)])) rfl (hb hby d2_5) (by decide) (by decide)
  obtain ⟨b2, g2⟩ : ∃ z, z = h0.size := ⟨_, rfl⟩
  rw [← g2] at A2 D2 U2 st2
  refine OGo.st st2 ?_
  have E_o0_w2 := E_o0.ext E2
  have ne_o0_b2 : o0 ≠ b2 := Nat.ne_of_lt (Nat.lt_of_lt_of_le E_o0.lt (Nat.le_of_eq g2.symm))
  have F_attributes_w2 := F_attributes.ext E2
  have F_id_w2 := F_id.ext E2
  have F_type_w2 := F_type.ext E2
  have F_source_w2 := F_source.ext E2
  have F_target_w2 := F_target.ext E2
  have F_serial_w2 := F_serial.ext E2
  have g_b2 : n0 ≤ b2 := Nat.le_trans Z0 (Nat.le_of_eq g2.symm)
  have sz_b2 : h0.size ≤ b2 := Nat.le_trans (Keep.refl h0 []).1 (Nat.le_of_eq g2.symm)
  have K2 : Keep h0 h2 [o0] := (Keep.refl h0 _).ext E2
  have Z2 : n0 ≤ h2.size := Nat.le_trans Z0 E2.1
  have F_loadFactor_b2 : Fld Z h2 b2 "java/util/HashMap" "loadFactor" "F" (.float 0) := D2 (Or.inr (hw _ (List.mem_of_getElem? (i := 44) rfl))) (ty := .float) (by decide)
  have F_putMode_b2 : Fld Z h2 b2 "java/util/LinkedHashMap" "putMode" "I" (.int (0 : Int32)) := D2 (Or.inl (hw _ (List.mem_of_getElem? (i := 46) rfl))) (ty := .int) (by decide)
  have F_accessOrder_b2 : Fld Z h2 b2 "java/util/LinkedHashMap" "accessOrder" "Z" (.int (0 : Int32)) := D2 (Or.inr (hw _ (List.mem_of_getElem? (i := 48) rfl))) (ty := .boolean) (by decide)
  show OGo p e below s _ _ _ (T2.setTop (mkF m 8 #[.val (.ref o0), .val (.ref o1), .val (.ref o2)] [(.ref b2), (.ref o0)]))
  refine OGo.st (fun _ k => XS.dup X2.here hx rfl (hb hby d2_8) rfl rfl k) ?_
  show OGo p e below s _ _ _ (T2.setTop (mkF m 9 #[.val (.ref o0), .val (.ref o1), .val (.ref o2)] [(.ref b2), (.ref b2), (.ref o0)]))
  obtain ⟨_, _, ⟨T3, L3, k3, n3⟩, -, X3, ⟨Lc3, hQ3, l3, y3, z3⟩, st3⟩ := X2.specialBack hx (y := (⟨"java/util/LinkedHashMap", "<init>", "()V"⟩ : MethodName)) rfl hown (mvT hZ (hw _ (List.mem_of_getElem? (i := 26) rfl))) (mvT hZ (hw _ (List.mem_of_getElem? (i := 27) rfl))) (mvT hZ (hw _ (List.mem_of_getElem? (i := 28) rfl))) (by decide) (backOf (W := 2) (rm4 l Z a0 hw [] b2 h2 n0 Z2 A2 F_loadFactor_b2 F_putMode_b2 F_accessOrder_b2 g_b2) hZ (hw _ (List.mem_of_getElem? (i := 28) rfl)) (hw _ (List.mem_of_getElem? (i := 25) rfl)) (by decide) (by decide)) (g := (mkF m 9 #[.val (.ref o0), .val (.ref o1), .val (.ref o2)] [(.ref b2), (.ref b2), (.ref o0)])) rfl (by rw [hml]; rfl) (Steps.refl _) (a := b2) (argsL := []) (rest := [(.ref b2), (.ref o0)]) (lenOf pd_2Edge_0 rfl) rfl (by show 2 * 0 + _ ≤ _; exact Nat.le_of_eq rfl) (hb hby d2_9) (fun _ _ => ⟨rfl, e2, (by decide : 1 + 0 ≤ _), (by decide : 12 + 0 ≤ _)⟩)
  dsimp only [Pt.U, Pt.locs, Pt.cells, Pt.slots] at X3 l3 y3 z3 st3 hQ3
  subst l3 y3 z3
  obtain ⟨rfl, N3q, Kc3⟩ := hQ3
  have E_o0_w3 := E_o0_w2.keep Kc3
  have F_attributes_w3 := F_attributes_w2.keep Kc3 (ninS ne_o0_b2 nin0)
  have F_id_w3 := F_id_w2.keep Kc3 (ninS ne_o0_b2 nin0)
  have F_type_w3 := F_type_w2.keep Kc3 (ninS ne_o0_b2 nin0)
  have F_source_w3 := F_source_w2.keep Kc3 (ninS ne_o0_b2 nin0)
  have F_target_w3 := F_target_w2.keep Kc3 (ninS ne_o0_b2 nin0)
  have F_serial_w3 := F_serial_w2.keep Kc3 (ninS ne_o0_b2 nin0)
  have A2_w3 := A2.keep Kc3
  have K3 : Keep h0 T3.heap [o0] := (K2).trans Kc3 (allS (Or.inr sz_b2) all0)
  have Z3 : n0 ≤ T3.heap.size := Nat.le_trans Z2 Kc3.1
  have N3 := Fr.app N0 N3q
  refine OGo.st (fun _ k => st3.trans k) ?_
  show OGo p e below s _ _ _ (T3.setTop (mkF m 12 #[.val (.ref o0), .val (.ref o1), .val (.ref o2)] [(.ref b2), (.ref o0)]))
  obtain ⟨T4, h4, X4, e4, W4, st4⟩ := putF X3 hx hZ hown (host := "") (Or.inl (hw _ (List.mem_of_getElem? (i := 49) rfl))) Via.refl rfl F_attributes_w3 E_o0_w3 (Or.inr ⟨(hw _ (List.mem_of_getElem? (i := 94) rfl)), rfl, hnm⟩) (hw _ (List.mem_of_getElem? (i := 87) rfl)) (ty := (.object "java/util/Map")) (by decide) rfl rfl (g := (mkF m 12 #[.val (.ref o0), .val (.ref o1), .val (.ref o2)] [(.ref b2), (.ref o0)])) rfl rfl (hb hby d2_12)
  refine OGo.st st4 ?_
  have E_o0_w4 := E_o0_w3.wr W4
  have F_id_w4 := F_id_w3.other W4 (Or.inr (slot_ne (a0 := a0) (Or.inr (hw _ (List.mem_of_getElem? (i := 95) rfl))) (Or.inr (hw _ (List.mem_of_getElem? (i := 94) rfl))) (by decide) (t := (.object "java/lang/String")) (t' := (.object "java/util/Map")) (by decide) (by decide)))
  have F_type_w4 := F_type_w3.other W4 (Or.inr (slot_ne (a0 := a0) (Or.inr (hw _ (List.mem_of_getElem? (i := 96) rfl))) (Or.inr (hw _ (List.mem_of_getElem? (i := 94) rfl))) (by decide) (t := (.object "java/lang/String")) (t' := (.object "java/util/Map")) (by decide) (by decide)))
  have F_source_w4 := F_source_w3.other W4 (Or.inr (slot_ne (a0 := a0) (Or.inr (hw _ (List.mem_of_getElem? (i := 98) rfl))) (Or.inr (hw _ (List.mem_of_getElem? (i := 94) rfl))) (by decide) (t := (.object "com/example/pushout_bench/pushoutbench/graph/Node")) (t' := (.object "java/util/Map")) (by decide) (by decide)))
  have F_target_w4 := F_target_w3.other W4 (Or.inr (slot_ne (a0 := a0) (Or.inr (hw _ (List.mem_of_getElem? (i := 100) rfl))) (Or.inr (hw _ (List.mem_of_getElem? (i := 94) rfl))) (by decide) (t := (.object "com/example/pushout_bench/pushoutbench/graph/Node")) (t' := (.object "java/util/Map")) (by decide) (by decide)))
  have F_serial_w4 := F_serial_w3.other W4 (Or.inr (slot_ne (a0 := a0) (Or.inl (hw _ (List.mem_of_getElem? (i := 103) rfl))) (Or.inr (hw _ (List.mem_of_getElem? (i := 94) rfl))) (by decide) (t := .long) (t' := (.object "java/util/Map")) (by decide) (by decide)))
  have A2_w4 := A2_w3.wr W4
  have K4 : Keep h0 h4 [o0] := (K3).wr W4 (Or.inl (List.mem_of_getElem? (i := 0) rfl))
  have N4 := Fr.snoc X4 N3 g_o0
  have Z4 : n0 ≤ h4.size := Nat.le_trans Z3 (Keep.of_wr W4).1
  have F4 : Fld Z h4 o0 "com/example/pushout_bench/pushoutbench/graph/Element" "attributes" "Ljava/util/Map;" (.ref b2) := F_attributes_w3.same W4
  show OGo p e below s _ _ _ (T4.setTop (mkF m 15 #[.val (.ref o0), .val (.ref o1), .val (.ref o2)] []))
  refine OGo.st (fun _ k => XS.aloadN X4.here hx rfl (hb hby d2_15) rfl rfl k) ?_
  show OGo p e below s _ _ _ (T4.setTop (mkF m 16 #[.val (.ref o0), .val (.ref o1), .val (.ref o2)] [(.ref o0)]))
  refine OGo.st (fun _ k => XS.aloadN X4.here hx rfl (hb hby d2_16) rfl rfl k) ?_
  show OGo p e below s _ _ _ (T4.setTop (mkF m 17 #[.val (.ref o0), .val (.ref o1), .val (.ref o2)] [(.ref o1), (.ref o0)]))
  obtain ⟨T5, h5, X5, e5, W5, st5⟩ := putF X4 hx hZ hown (host := "") (Or.inl (hw _ (List.mem_of_getElem? (i := 51) rfl))) Via.refl e4 F_id_w4 E_o0_w4 (Or.inr ⟨(hw _ (List.mem_of_getElem? (i := 95) rfl)), rfl, hnm⟩) (hw _ (List.mem_of_getElem? (i := 87) rfl)) (ty := (.object "java/lang/String")) (by decide) rfl rfl (g := (mkF m 17 #[.val (.ref o0), .val (.ref o1), .val (.ref o2)] [(.ref o1), (.ref o0)])) rfl rfl (hb hby d2_17)
  refine OGo.st st5 ?_
  have E_o0_w5 := E_o0_w4.wr W5
  have F4_w5 := F4.other W5 (Or.inr (slot_ne (a0 := a0) (Or.inr (hw _ (List.mem_of_getElem? (i := 94) rfl))) (Or.inr (hw _ (List.mem_of_getElem? (i := 95) rfl))) (by decide) (t := (.object "java/util/Map")) (t' := (.object "java/lang/String")) (by decide) (by decide)))
  have F_type_w5 := F_type_w4.other W5 (Or.inr (slot_ne (a0 := a0) (Or.inr (hw _ (List.mem_of_getElem? (i := 96) rfl))) (Or.inr (hw _ (List.mem_of_getElem? (i := 95) rfl))) (by decide) (t := (.object "java/lang/String")) (t' := (.object "java/lang/String")) (by decide) (by decide)))
  have F_source_w5 := F_source_w4.other W5 (Or.inr (slot_ne (a0 := a0) (Or.inr (hw _ (List.mem_of_getElem? (i := 98) rfl))) (Or.inr (hw _ (List.mem_of_getElem? (i := 95) rfl))) (by decide) (t := (.object "com/example/pushout_bench/pushoutbench/graph/Node")) (t' := (.object "java/lang/String")) (by decide) (by decide)))
  have F_target_w5 := F_target_w4.other W5 (Or.inr (slot_ne (a0 := a0) (Or.inr (hw _ (List.mem_of_getElem? (i := 100) rfl))) (Or.inr (hw _ (List.mem_of_getElem? (i := 95) rfl))) (by decide) (t := (.object "com/example/pushout_bench/pushoutbench/graph/Node")) (t' := (.object "java/lang/String")) (by decide) (by decide)))
  have F_serial_w5 := F_serial_w4.other W5 (Or.inr (slot_ne (a0 := a0) (Or.inl (hw _ (List.mem_of_getElem? (i := 103) rfl))) (Or.inr (hw _ (List.mem_of_getElem? (i := 95) rfl))) (by decide) (t := .long) (t' := (.object "java/lang/String")) (by decide) (by decide)))
  have A2_w5 := A2_w4.wr W5
  have K5 : Keep h0 h5 [o0] := (K4).wr W5 (Or.inl (List.mem_of_getElem? (i := 0) rfl))
  have N5 := Fr.snoc X5 N4 g_o0
  have Z5 : n0 ≤ h5.size := Nat.le_trans Z4 (Keep.of_wr W5).1
  have F5 : Fld Z h5 o0 "com/example/pushout_bench/pushoutbench/graph/Element" "id" "Ljava/lang/String;" (.ref o1) := F_id_w4.same W5
  show OGo p e below s _ _ _ (T5.setTop (mkF m 20 #[.val (.ref o0), .val (.ref o1), .val (.ref o2)] []))
  refine OGo.st (fun _ k => XS.aloadN X5.here hx rfl (hb hby d2_20) rfl rfl k) ?_
  show OGo p e below s _ _ _ (T5.setTop (mkF m 21 #[.val (.ref o0), .val (.ref o1), .val (.ref o2)] [(.ref o0)]))
  refine OGo.st (fun _ k => XS.aloadN X5.here hx rfl (hb hby d2_21) rfl rfl k) ?_
  show OGo p e below s _ _ _ (T5.setTop (mkF m 22 #[.val (.ref o0), .val (.ref o1), .val (.ref o2)] [(.ref o2), (.ref o0)]))
  obtain ⟨T6, h6, X6, e6, W6, st6⟩ := putF X5 hx hZ hown (host := "") (Or.inl (hw _ (List.mem_of_getElem? (i := 53) rfl))) Via.refl e5 F_type_w5 E_o0_w5 (Or.inr ⟨(hw _ (List.mem_of_getElem? (i := 96) rfl)), rfl, hnm⟩) (hw _ (List.mem_of_getElem? (i := 87) rfl)) (ty := (.object "java/lang/String")) (by decide) rfl rfl (g := (mkF m 22 #[.val (.ref o0), .val (.ref o1), .val (.ref o2)] [(.ref o2), (.ref o0)])) rfl rfl (hb hby d2_22)
  refine OGo.st st6 ?_
  have E_o0_w6 := E_o0_w5.wr W6
  have F4_w6 := F4_w5.other W6 (Or.inr (slot_ne (a0 := a0) (Or.inr (hw _ (List.mem_of_getElem? (i := 94) rfl))) (Or.inr (hw _ (List.mem_of_getElem? (i := 96) rfl))) (by decide) (t := (.object "java/util/Map")) (t' := (.object "java/lang/String")) (by decide) (by decide)))
  have F5_w6 := F5.other W6 (Or.inr (slot_ne (a0 := a0) (Or.inr (hw _ (List.mem_of_getElem? (i := 95) rfl))) (Or.inr (hw _ (List.mem_of_getElem? (i := 96) rfl))) (by decide) (t := (.object "java/lang/String")) (t' := (.object "java/lang/String")) (by decide) (by decide)))
  have F_source_w6 := F_source_w5.other W6 (Or.inr (slot_ne (a0 := a0) (Or.inr (hw _ (List.mem_of_getElem? (i := 98) rfl))) (Or.inr (hw _ (List.mem_of_getElem? (i := 96) rfl))) (by decide) (t := (.object "com/example/pushout_bench/pushoutbench/graph/Node")) (t' := (.object "java/lang/String")) (by decide) (by decide)))
  have F_target_w6 := F_target_w5.other W6 (Or.inr (slot_ne (a0 := a0) (Or.inr (hw _ (List.mem_of_getElem? (i := 100) rfl))) (Or.inr (hw _ (List.mem_of_getElem? (i := 96) rfl))) (by decide) (t := (.object "com/example/pushout_bench/pushoutbench/graph/Node")) (t' := (.object "java/lang/String")) (by decide) (by decide)))
  have F_serial_w6 := F_serial_w5.other W6 (Or.inr (slot_ne (a0 := a0) (Or.inl (hw _ (List.mem_of_getElem? (i := 103) rfl))) (Or.inr (hw _ (List.mem_of_getElem? (i := 96) rfl))) (by decide) (t := .long) (t' := (.object "java/lang/String")) (by decide) (by decide)))
  have A2_w6 := A2_w5.wr W6
  have K6 : Keep h0 h6 [o0] := (K5).wr W6 (Or.inl (List.mem_of_getElem? (i := 0) rfl))
  have N6 := Fr.snoc X6 N5 g_o0
  have Z6 : n0 ≤ h6.size := Nat.le_trans Z5 (Keep.of_wr W6).1
  have F6 : Fld Z h6 o0 "com/example/pushout_bench/pushoutbench/graph/Element" "type" "Ljava/lang/String;" (.ref o2) := F_type_w5.same W6
  show OGo p e below s _ _ _ (T6.setTop (mkF m 25 #[.val (.ref o0), .val (.ref o1), .val (.ref o2)] []))
  exact oret0 X6 hx Bd.notSynchronized Bd.returns (hb hby d2_25) e6 ⟨rfl, N6, K6, F_source_w6, F_target_w6, F_serial_w6⟩ (by decide) (by decide)
theorem d1_0 : decode prog_66_method_1_code 0 = .ok (.aload_n 0, 1) := by decide +kernel
theorem d1_1 : decode prog_66_method_1_code 1 = .ok (.aload_n 1, 1) := by decide +kernel
theorem d1_2 : decode prog_66_method_1_code 2 = .ok (.aload_n 2, 1) := by decide +kernel
theorem d1_3 : decode prog_66_method_1_code 3 = .ok (.invokespecial 1, 3) := by decide +kernel
theorem d1_6 : decode prog_66_method_1_code 6 = .ok (.aload_n 0, 1) := by decide +kernel
theorem d1_7 : decode prog_66_method_1_code 7 = .ok (.new 7, 3) := by decide +kernel
theorem d1_10 : decode prog_66_method_1_code 10 = .ok (.dup, 1) := by decide +kernel
theorem d1_11 : decode prog_66_method_1_code 11 = .ok (.invokespecial 9, 3) := by decide +kernel
theorem d1_14 : decode prog_66_method_1_code 14 = .ok (.putfield 12, 3) := by decide +kernel
theorem d1_17 : decode prog_66_method_1_code 17 = .ok (.aload_n 0, 1) := by decide +kernel
theorem d1_18 : decode prog_66_method_1_code 18 = .ok (.new 7, 3) := by decide +kernel
theorem d1_21 : decode prog_66_method_1_code 21 = .ok (.dup, 1) := by decide +kernel
theorem d1_22 : decode prog_66_method_1_code 22 = .ok (.invokespecial 9, 3) := by decide +kernel
theorem d1_25 : decode prog_66_method_1_code 25 = .ok (.putfield 18, 3) := by decide +kernel
theorem d1_28 : decode prog_66_method_1_code 28 = .ok (.return_, 1) := by decide +kernel
theorem pn_1 : plainName "com/example/pushout_bench/pushoutbench/graph/Node" = true := by first | (simp [plainName, overriddenIn]; done) | decide +kernel
theorem pd_1_0 : parseMethodDescriptor "(Ljava/lang/String;Ljava/lang/String;)V" = some ⟨[(.object "java/lang/String"), (.object "java/lang/String")], none⟩ := by decide +kernel
theorem pd_1_1 : parseMethodDescriptor "()V" = some ⟨[], none⟩ := by decide +kernel
theorem ef_1 (m : MethodId) (o0 : Addr) (o1 : Addr) (o2 : Addr) : entryFrame m #[(.ref o0), (.ref o1), (.ref o2)] 3 = mkF m 0 #[.val (.ref o0), .val (.ref o1), .val (.ref o2)] [] := by first | (simp [entryFrame, mkF, argsToLocals, Value.category]; done) | rfl
def Q1 (Z : State) (o0 : Addr) (o1 : Addr) (o2 : Addr) (w_D : Addr) (h0 : Heap) (n0 : Nat) (v : Option Value) (h : Heap) (L : List Loc) : Prop := v = none ∧ Fr n0 L ∧ Keep h0 h [o0] ∧ Fld Z h o0 "com/example/pushout_bench/pushoutbench/graph/Element" "serial" "J" (.long (0 : Int64))
set_option maxRecDepth 65536 in
set_option maxHeartbeats 40000000 in
theorem rm1 (l : Launch) (Z : State) (a0 : Array Value) (hw : ∀ d ∈ tables_1, d.before a0 Z = true) (ws : List Jvm.Cond) (o0 : Addr) (o1 : Addr) (o2 : Addr) (w_D : Addr) (h0 : Heap) (n0 : Nat) (Z0 : n0 ≤ h0.size) (E_o0 : Exa Z h0 o0 "com/example/pushout_bench/pushoutbench/graph/Node") (F_attributes : Fld Z h0 o0 "com/example/pushout_bench/pushoutbench/graph/Element" "attributes" "Ljava/util/Map;" .null) (F_id : Fld Z h0 o0 "com/example/pushout_bench/pushoutbench/graph/Element" "id" "Ljava/lang/String;" .null) (F_type : Fld Z h0 o0 "com/example/pushout_bench/pushoutbench/graph/Element" "type" "Ljava/lang/String;" .null) (F_outgoing : Fld Z h0 o0 "com/example/pushout_bench/pushoutbench/graph/Node" "outgoing" "Ljava/util/List;" .null) (F_incoming : Fld Z h0 o0 "com/example/pushout_bench/pushoutbench/graph/Node" "incoming" "Ljava/util/List;" .null) (F_serial : Fld Z h0 o0 "com/example/pushout_bench/pushoutbench/graph/Element" "serial" "J" (.long (0 : Int64))) (S_D : Sta Z h0 "java/util/ArrayList" "DEFAULTCAPACITY_EMPTY_ELEMENTDATA" "[Ljava/lang/Object;" (.ref w_D)) (g_o0 : n0 ≤ o0) :
    MetFree l (⟨"com/example/pushout_bench/pushoutbench/graph/Node", "<init>", "(Ljava/lang/String;Ljava/lang/String;)V"⟩ : MethodName) (head1 (Jvm.Cond.code (⟨"com/example/pushout_bench/pushoutbench/graph/Node", "<init>", "(Ljava/lang/String;Ljava/lang/String;)V"⟩ : MethodName) prog_66_method_1_code 3 none :: ws) ({ frames := 5, cells := 3, slots := 18, locals := 64 } : Room)) (fun a U => a = #[(.ref o0), (.ref o1), (.ref o2)] ∧ Z.Warmed39 U.vm ∧ U.heap = h0) (fun _ _ _ _ _ => True) (fun _ U o U' => ∃ v L, o = .returned v ∧ Q1 Z o0 o1 o2 w_D h0 n0 v U'.heap L ∧ FrameEnd U o U' L ({ frames := 5, cells := 3, slots := 18, locals := 64 } : Room).cells ({ frames := 5, cells := 3, slots := 18, locals := 64 } : Room).slots) := by
  refine MetFree.of_bodySF (plainFor_of_name pn_1) hisR ?_
  intro p e s m args below meth c s₁ Bd hml0 hP hK
  obtain ⟨rfl, hZ, hh⟩ := hP
  have hx := Bd.exec
  have hby := Bd.bytes
  have hml : c.maxLocals = 3 := hml0
  have hown : s.vm.findClass "com/example/pushout_bench/pushoutbench/graph/Node" = some m.cls := findClass_of_methodNamed Bd.named
  have hnm := (name_of_methodNamed Bd.named Bd.method).1
  have X0 : Stand p l e ({ frames := 5, cells := 3, slots := 18, locals := 64 } : Room) s m #[(.ref o0), (.ref o1), (.ref o2)] below meth c s₁ [] 0 0 := Stand.of_body Bd
  have e0 : s₁.heap = h0 := by rw [← hh, Bd.state]; rfl
  have N0 := Fr.nil n0
  show OGo p e below s (Q1 Z o0 o1 o2 w_D h0 n0) ({ frames := 5, cells := 3, slots := 18, locals := 64 } : Room).cells ({ frames := 5, cells := 3, slots := 18, locals := 64 } : Room).slots _
  refine OGo.st (fun _ k => castTop (ef_1 m o0 o1 o2) k) ?_
  show OGo p e below s _ _ _ (s₁.setTop (mkF m 0 #[.val (.ref o0), .val (.ref o1), .val (.ref o2)] []))
  refine OGo.st (fun _ k => XS.aloadN X0.here hx rfl (hb hby d1_0) rfl rfl k) ?_
  show OGo p e below s _ _ _ (s₁.setTop (mkF m 1 #[.val (.ref o0), .val (.ref o1), .val (.ref o2)] [(.ref o0)]))
  refine OGo.st (fun _ k => XS.aloadN X0.here hx rfl (hb hby d1_1) rfl rfl k) ?_
  show OGo p e below s _ _ _ (s₁.setTop (mkF m 2 #[.val (.ref o0), .val (.ref o1), .val (.ref o2)] [(.ref o1), (.ref o0)]))
  refine OGo.st (fun _ k => XS.aloadN X0.here hx rfl (hb hby d1_2) rfl rfl k) ?_
  show OGo p e below s _ _ _ (s₁.setTop (mkF m 3 #[.val (.ref o0), .val (.ref o1), .val (.ref o2)] [(.ref o2), (.ref o1), (.ref o0)]))
  obtain ⟨_, _, ⟨T1, L1, k1, n1⟩, -, X1, ⟨Lc1, hQ1, l1, y1, z1⟩, st1⟩ := X0.specialBack hx (y := (⟨"com/example/pushout_bench/pushoutbench/graph/Element", "<init>", "(Ljava/lang/String;Ljava/lang/String;)V"⟩ : MethodName)) rfl hown (mvT hZ (hw _ (List.mem_of_getElem? (i := 15) rfl))) (mvT hZ (hw _ (List.mem_of_getElem? (i := 16) rfl))) (mvT hZ (hw _ (List.mem_of_getElem? (i := 19) rfl))) (by decide) (backOf (W := 0) (rm2Node l Z a0 hw [] o0 o1 o2 h0 n0 Z0 E_o0 F_attributes F_id F_type F_outgoing F_incoming F_serial g_o0) hZ (hw _ (List.mem_of_getElem? (i := 19) rfl)) (hw _ (List.mem_of_getElem? (i := 18) rfl)) (by decide) (by decide)) (g := (mkF m 3 #[.val (.ref o0), .val (.ref o1), .val (.ref o2)] [(.ref o2), (.ref o1), (.ref o0)])) rfl (by rw [hml]; rfl) (Steps.refl _) (a := o0) (argsL := [(.ref o1), (.ref o2)]) (rest := []) (lenOf pd_1_0 rfl) rfl (by show 2 * 0 + _ ≤ _; exact Nat.le_of_eq rfl) (hb hby d1_3) (fun _ _ => ⟨rfl, e0, (by decide : 0 + 1 ≤ _), (by decide : 0 + 12 ≤ _)⟩)
  dsimp only [Pt.U, Pt.locs, Pt.cells, Pt.slots] at X1 l1 y1 z1 st1 hQ1
  subst l1 y1 z1
  obtain ⟨rfl, N1q, Kc1, G1_0, G1_1, G1_2⟩ := hQ1
  have E_o0_w1 := E_o0.keep Kc1
  have S_D_w1 := osta_keep S_D Kc1 (osta_exa E_o0 (fun _ _ _ _ => nin0))
  have K1 : Keep h0 T1.heap [o0] := (Keep.refl h0 _).trans Kc1 (allS (Or.inl (List.mem_of_getElem? (i := 0) rfl)) all0)
  have Z1 : n0 ≤ T1.heap.size := Nat.le_trans Z0 Kc1.1
  have N1 := Fr.app N0 N1q
  refine OGo.st (fun _ k => st1.trans k) ?_
  show OGo p e below s _ _ _ (T1.setTop (mkF m 6 #[.val (.ref o0), .val (.ref o1), .val (.ref o2)] []))
  refine OGo.st (fun _ k => XS.aloadN X1.here hx rfl (hb hby d1_6) rfl rfl k) ?_
  show OGo p e below s _ _ _ (T1.setTop (mkF m 7 #[.val (.ref o0), .val (.ref o1), .val (.ref o2)] [(.ref o0)]))
  obtain ⟨T2, h2, X2, e2, E2, A2, D2, U2, st2⟩ := newO X1 hx hZ hown (hw _ (List.mem_of_getElem? (i := 55) rfl)) (hw _ (List.mem_of_getElem? (i := 56) rfl)) (hw _ (List.mem_of_getElem? (i := 57) rfl)) rfl (g := (mkF m 7 #[.val (.ref o0), .val (.ref o1), .val (.ref o2)] [(.ref o0)])) rfl (hb hby d1_7) (by decide) (by decide)
  obtain ⟨b2, g2⟩ : ∃ z, z = T1.heap.size := ⟨_, rfl⟩
  rw [← g2] at A2 D2 U2 st2
  refine OGo.st st2 ?_
  have E_o0_w2 := E_o0_w1.ext E2
  have ne_o0_b2 : o0 ≠ b2 := Nat.ne_of_lt (Nat.lt_of_lt_of_le E_o0_w1.lt (Nat.le_of_eq g2.symm))
  have S_D_w2 := S_D_w1.ext E2
  have G1_0_w2 := G1_0.ext E2
  have G1_1_w2 := G1_1.ext E2
  have G1_2_w2 := G1_2.ext E2
  have g_b2 : n0 ≤ b2 := Nat.le_trans Z1 (Nat.le_of_eq g2.symm)
  have sz_b2 : h0.size ≤ b2 := Nat.le_trans (K1).1 (Nat.le_of_eq g2.symm)
  have K2 : Keep h0 h2 [o0] := (K1).ext E2
  have Z2 : n0 ≤ h2.size := Nat.le_trans Z1 E2.1
  have F_modCount_b2 : Fld Z h2 b2 "java/util/AbstractList" "modCount" "I" (.int (0 : Int32)) := D2 (Or.inl (hw _ (List.mem_of_getElem? (i := 75) rfl))) (ty := .int) (by decide)
  have F_elementData_b2 : Fld Z h2 b2 "java/util/ArrayList" "elementData" "[Ljava/lang/Object;" .null := D2 (Or.inl (hw _ (List.mem_of_getElem? (i := 78) rfl))) (ty := (.array (.object "java/lang/Object"))) (by decide)
  show OGo p e below s _ _ _ (T2.setTop (mkF m 10 #[.val (.ref o0), .val (.ref o1), .val (.ref o2)] [(.ref b2), (.ref o0)]))
  refine OGo.st (fun _ k => XS.dup X2.here hx rfl (hb hby d1_10) rfl rfl k) ?_
  show OGo p e below s _ _ _ (T2.setTop (mkF m 11 #[.val (.ref o0), .val (.ref o1), .val (.ref o2)] [(.ref b2), (.ref b2), (.ref o0)]))
  obtain ⟨_, _, ⟨T3, L3, k3, n3⟩, -, X3, ⟨Lc3, hQ3, l3, y3, z3⟩, st3⟩ := X2.specialBack hx (y := (⟨"java/util/ArrayList", "<init>", "()V"⟩ : MethodName)) rfl hown (mvT hZ (hw _ (List.mem_of_getElem? (i := 58) rfl))) (mvT hZ (hw _ (List.mem_of_getElem? (i := 59) rfl))) (mvT hZ (hw _ (List.mem_of_getElem? (i := 60) rfl))) (by decide) (backOf (W := 2) (rm7 l Z a0 hw [] b2 w_D h2 n0 Z2 A2 F_modCount_b2 F_elementData_b2 S_D_w2 g_b2) hZ (hw _ (List.mem_of_getElem? (i := 60) rfl)) (hw _ (List.mem_of_getElem? (i := 57) rfl)) (by decide) (by decide)) (g := (mkF m 11 #[.val (.ref o0), .val (.ref o1), .val (.ref o2)] [(.ref b2), (.ref b2), (.ref o0)])) rfl (by rw [hml]; rfl) (Steps.refl _) (a := b2) (argsL := []) (rest := [(.ref b2), (.ref o0)]) (lenOf pd_1_1 rfl) rfl (by show 2 * 0 + _ ≤ _; exact Nat.le_of_eq rfl) (hb hby d1_11) (fun _ _ => ⟨rfl, e2, (by decide : 2 + 0 ≤ _), (by decide : 15 + 0 ≤ _)⟩)
  dsimp only [Pt.U, Pt.locs, Pt.cells, Pt.slots] at X3 l3 y3 z3 st3 hQ3
  subst l3 y3 z3
  obtain ⟨rfl, N3q, Kc3⟩ := hQ3
  have E_o0_w3 := E_o0_w2.keep Kc3
  have S_D_w3 := osta_keep S_D_w2 Kc3 (osta_exa A2 (fun _ _ _ _ => nin0))
  have G1_0_w3 := G1_0_w2.keep Kc3 (ninS ne_o0_b2 nin0)
  have G1_1_w3 := G1_1_w2.keep Kc3 (ninS ne_o0_b2 nin0)
  have G1_2_w3 := G1_2_w2.keep Kc3 (ninS ne_o0_b2 nin0)
  have A2_w3 := A2.keep Kc3
  have K3 : Keep h0 T3.heap [o0] := (K2).trans Kc3 (allS (Or.inr sz_b2) all0)
  have Z3 : n0 ≤ T3.heap.size := Nat.le_trans Z2 Kc3.1
  have N3 := Fr.app N1 N3q
  refine OGo.st (fun _ k => st3.trans k) ?_
  show OGo p e below s _ _ _ (T3.setTop (mkF m 14 #[.val (.ref o0), .val (.ref o1), .val (.ref o2)] [(.ref b2), (.ref o0)]))
  obtain ⟨T4, h4, X4, e4, W4, st4⟩ := putF X3 hx hZ hown (host := "") (Or.inl (hw _ (List.mem_of_getElem? (i := 79) rfl))) Via.refl rfl G1_0_w3 E_o0_w3 (Or.inr ⟨(hw _ (List.mem_of_getElem? (i := 80) rfl)), rfl, hnm⟩) (hw _ (List.mem_of_getElem? (i := 1) rfl)) (ty := (.object "java/util/List")) (by decide) rfl rfl (g := (mkF m 14 #[.val (.ref o0), .val (.ref o1), .val (.ref o2)] [(.ref b2), (.ref o0)])) rfl rfl (hb hby d1_14)
  refine OGo.st st4 ?_
  have E_o0_w4 := E_o0_w3.wr W4
  have S_D_w4 := S_D_w3.wr W4
  have G1_1_w4 := G1_1_w3.other W4 (Or.inr (slot_ne (a0 := a0) (Or.inr (hw _ (List.mem_of_getElem? (i := 82) rfl))) (Or.inr (hw _ (List.mem_of_getElem? (i := 80) rfl))) (by decide) (t := (.object "java/util/List")) (t' := (.object "java/util/List")) (by decide) (by decide)))
  have G1_2_w4 := G1_2_w3.other W4 (Or.inr (slot_ne (a0 := a0) (Or.inl (hw _ (List.mem_of_getElem? (i := 85) rfl))) (Or.inr (hw _ (List.mem_of_getElem? (i := 80) rfl))) (by decide) (t := .long) (t' := (.object "java/util/List")) (by decide) (by decide)))
  have A2_w4 := A2_w3.wr W4
  have K4 : Keep h0 h4 [o0] := (K3).wr W4 (Or.inl (List.mem_of_getElem? (i := 0) rfl))
  have N4 := Fr.snoc X4 N3 g_o0
  have Z4 : n0 ≤ h4.size := Nat.le_trans Z3 (Keep.of_wr W4).1
  have F4 : Fld Z h4 o0 "com/example/pushout_bench/pushoutbench/graph/Node" "outgoing" "Ljava/util/List;" (.ref b2) := G1_0_w3.same W4
  show OGo p e below s _ _ _ (T4.setTop (mkF m 17 #[.val (.ref o0), .val (.ref o1), .val (.ref o2)] []))
  refine OGo.st (fun _ k => XS.aloadN X4.here hx rfl (hb hby d1_17) rfl rfl k) ?_
  show OGo p e below s _ _ _ (T4.setTop (mkF m 18 #[.val (.ref o0), .val (.ref o1), .val (.ref o2)] [(.ref o0)]))
  obtain ⟨T5, h5, X5, e5, E5, A5, D5, U5, st5⟩ := newO X4 hx hZ hown (hw _ (List.mem_of_getElem? (i := 55) rfl)) (hw _ (List.mem_of_getElem? (i := 56) rfl)) (hw _ (List.mem_of_getElem? (i := 57) rfl)) e4 (g := (mkF m 18 #[.val (.ref o0), .val (.ref o1), .val (.ref o2)] [(.ref o0)])) rfl (hb hby d1_18) (by decide) (by decide)
  obtain ⟨b5, g5⟩ : ∃ z, z = h4.size := ⟨_, rfl⟩
  rw [← g5] at A5 D5 U5 st5
  refine OGo.st st5 ?_
  have E_o0_w5 := E_o0_w4.ext E5
  have ne_o0_b5 : o0 ≠ b5 := Nat.ne_of_lt (Nat.lt_of_lt_of_le E_o0_w4.lt (Nat.le_of_eq g5.symm))
  have S_D_w5 := S_D_w4.ext E5
  have F4_w5 := F4.ext E5
  have G1_1_w5 := G1_1_w4.ext E5
  have G1_2_w5 := G1_2_w4.ext E5
  have A2_w5 := A2_w4.ext E5
  have ne_b2_b5 : b2 ≠ b5 := Nat.ne_of_lt (Nat.lt_of_lt_of_le A2_w4.lt (Nat.le_of_eq g5.symm))
  have g_b5 : n0 ≤ b5 := Nat.le_trans Z4 (Nat.le_of_eq g5.symm)
  have sz_b5 : h0.size ≤ b5 := Nat.le_trans (K4).1 (Nat.le_of_eq g5.symm)
  have K5 : Keep h0 h5 [o0] := (K4).ext E5
  have Z5 : n0 ≤ h5.size := Nat.le_trans Z4 E5.1
  have F_modCount_b5 : Fld Z h5 b5 "java/util/AbstractList" "modCount" "I" (.int (0 : Int32)) := D5 (Or.inl (hw _ (List.mem_of_getElem? (i := 75) rfl))) (ty := .int) (by decide)
  have F_elementData_b5 : Fld Z h5 b5 "java/util/ArrayList" "elementData" "[Ljava/lang/Object;" .null := D5 (Or.inl (hw _ (List.mem_of_getElem? (i := 78) rfl))) (ty := (.array (.object "java/lang/Object"))) (by decide)
  show OGo p e below s _ _ _ (T5.setTop (mkF m 21 #[.val (.ref o0), .val (.ref o1), .val (.ref o2)] [(.ref b5), (.ref o0)]))
  refine OGo.st (fun _ k => XS.dup X5.here hx rfl (hb hby d1_21) rfl rfl k) ?_
  show OGo p e below s _ _ _ (T5.setTop (mkF m 22 #[.val (.ref o0), .val (.ref o1), .val (.ref o2)] [(.ref b5), (.ref b5), (.ref o0)]))
  obtain ⟨_, _, ⟨T6, L6, k6, n6⟩, -, X6, ⟨Lc6, hQ6, l6, y6, z6⟩, st6⟩ := X5.specialBack hx (y := (⟨"java/util/ArrayList", "<init>", "()V"⟩ : MethodName)) rfl hown (mvT hZ (hw _ (List.mem_of_getElem? (i := 58) rfl))) (mvT hZ (hw _ (List.mem_of_getElem? (i := 59) rfl))) (mvT hZ (hw _ (List.mem_of_getElem? (i := 60) rfl))) (by decide) (backOf (W := 2) (rm7 l Z a0 hw [] b5 w_D h5 n0 Z5 A5 F_modCount_b5 F_elementData_b5 S_D_w5 g_b5) hZ (hw _ (List.mem_of_getElem? (i := 60) rfl)) (hw _ (List.mem_of_getElem? (i := 57) rfl)) (by decide) (by decide)) (g := (mkF m 22 #[.val (.ref o0), .val (.ref o1), .val (.ref o2)] [(.ref b5), (.ref b5), (.ref o0)])) rfl (by rw [hml]; rfl) (Steps.refl _) (a := b5) (argsL := []) (rest := [(.ref b5), (.ref o0)]) (lenOf pd_1_1 rfl) rfl (by show 2 * 0 + _ ≤ _; exact Nat.le_of_eq rfl) (hb hby d1_22) (fun _ _ => ⟨rfl, e5, (by decide : 3 + 0 ≤ _), (by decide : 18 + 0 ≤ _)⟩)
  dsimp only [Pt.U, Pt.locs, Pt.cells, Pt.slots] at X6 l6 y6 z6 st6 hQ6
  subst l6 y6 z6
  obtain ⟨rfl, N6q, Kc6⟩ := hQ6
  have E_o0_w6 := E_o0_w5.keep Kc6
  have S_D_w6 := osta_keep S_D_w5 Kc6 (osta_exa A5 (fun _ _ _ _ => nin0))
  have F4_w6 := F4_w5.keep Kc6 (ninS ne_o0_b5 nin0)
  have G1_1_w6 := G1_1_w5.keep Kc6 (ninS ne_o0_b5 nin0)
  have G1_2_w6 := G1_2_w5.keep Kc6 (ninS ne_o0_b5 nin0)
  have A2_w6 := A2_w5.keep Kc6
  have A5_w6 := A5.keep Kc6
  have K6 : Keep h0 T6.heap [o0] := (K5).trans Kc6 (allS (Or.inr sz_b5) all0)
  have Z6 : n0 ≤ T6.heap.size := Nat.le_trans Z5 Kc6.1
  have N6 := Fr.app N4 N6q
  refine OGo.st (fun _ k => st6.trans k) ?_
  show OGo p e below s _ _ _ (T6.setTop (mkF m 25 #[.val (.ref o0), .val (.ref o1), .val (.ref o2)] [(.ref b5), (.ref o0)]))
  obtain ⟨T7, h7, X7, e7, W7, st7⟩ := putF X6 hx hZ hown (host := "") (Or.inl (hw _ (List.mem_of_getElem? (i := 81) rfl))) Via.refl rfl G1_1_w6 E_o0_w6 (Or.inr ⟨(hw _ (List.mem_of_getElem? (i := 82) rfl)), rfl, hnm⟩) (hw _ (List.mem_of_getElem? (i := 1) rfl)) (ty := (.object "java/util/List")) (by decide) rfl rfl (g := (mkF m 25 #[.val (.ref o0), .val (.ref o1), .val (.ref o2)] [(.ref b5), (.ref o0)])) rfl rfl (hb hby d1_25)
  refine OGo.st st7 ?_
  have E_o0_w7 := E_o0_w6.wr W7
  have S_D_w7 := S_D_w6.wr W7
  have F4_w7 := F4_w6.other W7 (Or.inr (slot_ne (a0 := a0) (Or.inr (hw _ (List.mem_of_getElem? (i := 80) rfl))) (Or.inr (hw _ (List.mem_of_getElem? (i := 82) rfl))) (by decide) (t := (.object "java/util/List")) (t' := (.object "java/util/List")) (by decide) (by decide)))
  have G1_2_w7 := G1_2_w6.other W7 (Or.inr (slot_ne (a0 := a0) (Or.inl (hw _ (List.mem_of_getElem? (i := 85) rfl))) (Or.inr (hw _ (List.mem_of_getElem? (i := 82) rfl))) (by decide) (t := .long) (t' := (.object "java/util/List")) (by decide) (by decide)))
  have A2_w7 := A2_w6.wr W7
  have A5_w7 := A5_w6.wr W7
  have K7 : Keep h0 h7 [o0] := (K6).wr W7 (Or.inl (List.mem_of_getElem? (i := 0) rfl))
  have N7 := Fr.snoc X7 N6 g_o0
  have Z7 : n0 ≤ h7.size := Nat.le_trans Z6 (Keep.of_wr W7).1
  have F7 : Fld Z h7 o0 "com/example/pushout_bench/pushoutbench/graph/Node" "incoming" "Ljava/util/List;" (.ref b5) := G1_1_w6.same W7
  show OGo p e below s _ _ _ (T7.setTop (mkF m 28 #[.val (.ref o0), .val (.ref o1), .val (.ref o2)] []))
  exact oret0 X7 hx Bd.notSynchronized Bd.returns (hb hby d1_28) e7 ⟨rfl, N7, K7, G1_2_w7⟩ (by decide) (by decide)
theorem d10_0 : decode prog_59_method_1_code 0 = .ok (.aload_n 0, 1) := by decide +kernel
theorem d10_1 : decode prog_59_method_1_code 1 = .ok (.aload_n 1, 1) := by decide +kernel
theorem d10_2 : decode prog_59_method_1_code 2 = .ok (.aload_n 2, 1) := by decide +kernel
theorem d10_3 : decode prog_59_method_1_code 3 = .ok (.invokespecial 1, 3) := by decide +kernel
theorem d10_6 : decode prog_59_method_1_code 6 = .ok (.aload_n 0, 1) := by decide +kernel
theorem d10_7 : decode prog_59_method_1_code 7 = .ok (.aload_n 3, 1) := by decide +kernel
theorem d10_8 : decode prog_59_method_1_code 8 = .ok (.putfield 7, 3) := by decide +kernel
theorem d10_11 : decode prog_59_method_1_code 11 = .ok (.aload_n 0, 1) := by decide +kernel
theorem d10_12 : decode prog_59_method_1_code 12 = .ok (.aload 4, 2) := by decide +kernel
theorem d10_14 : decode prog_59_method_1_code 14 = .ok (.putfield 13, 3) := by decide +kernel
theorem d10_17 : decode prog_59_method_1_code 17 = .ok (.return_, 1) := by decide +kernel
theorem pn_10 : plainName "com/example/pushout_bench/pushoutbench/graph/Edge" = true := by first | (simp [plainName, overriddenIn]; done) | decide +kernel
theorem pd_10_0 : parseMethodDescriptor "(Ljava/lang/String;Ljava/lang/String;)V" = some ⟨[(.object "java/lang/String"), (.object "java/lang/String")], none⟩ := by decide +kernel
theorem ef_10 (m : MethodId) (o0 : Addr) (o1 : Addr) (o2 : Addr) (o3 : Addr) (o4 : Addr) : entryFrame m #[(.ref o0), (.ref o1), (.ref o2), (.ref o3), (.ref o4)] 5 = mkF m 0 #[.val (.ref o0), .val (.ref o1), .val (.ref o2), .val (.ref o3), .val (.ref o4)] [] := by first | (simp [entryFrame, mkF, argsToLocals, Value.category]; done) | rfl
def Q10 (Z : State) (o0 : Addr) (o1 : Addr) (o2 : Addr) (o3 : Addr) (o4 : Addr) (h0 : Heap) (n0 : Nat) (v : Option Value) (h : Heap) (L : List Loc) : Prop := v = none ∧ Fr n0 L ∧ Keep h0 h [o0] ∧ Fld Z h o0 "com/example/pushout_bench/pushoutbench/graph/Element" "serial" "J" (.long (0 : Int64))
set_option maxRecDepth 65536 in
set_option maxHeartbeats 40000000 in
theorem rm10 (l : Launch) (Z : State) (a0 : Array Value) (hw : ∀ d ∈ tables_1, d.before a0 Z = true) (ws : List Jvm.Cond) (o0 : Addr) (o1 : Addr) (o2 : Addr) (o3 : Addr) (o4 : Addr) (h0 : Heap) (n0 : Nat) (Z0 : n0 ≤ h0.size) (E_o0 : Exa Z h0 o0 "com/example/pushout_bench/pushoutbench/graph/Edge") (F_attributes : Fld Z h0 o0 "com/example/pushout_bench/pushoutbench/graph/Element" "attributes" "Ljava/util/Map;" .null) (F_id : Fld Z h0 o0 "com/example/pushout_bench/pushoutbench/graph/Element" "id" "Ljava/lang/String;" .null) (F_type : Fld Z h0 o0 "com/example/pushout_bench/pushoutbench/graph/Element" "type" "Ljava/lang/String;" .null) (F_source : Fld Z h0 o0 "com/example/pushout_bench/pushoutbench/graph/Edge" "source" "Lcom/example/pushout_bench/pushoutbench/graph/Node;" .null) (F_target : Fld Z h0 o0 "com/example/pushout_bench/pushoutbench/graph/Edge" "target" "Lcom/example/pushout_bench/pushoutbench/graph/Node;" .null) (F_serial : Fld Z h0 o0 "com/example/pushout_bench/pushoutbench/graph/Element" "serial" "J" (.long (0 : Int64))) (g_o0 : n0 ≤ o0) :
    MetFree l (⟨"com/example/pushout_bench/pushoutbench/graph/Edge", "<init>", "(Ljava/lang/String;Ljava/lang/String;Lcom/example/pushout_bench/pushoutbench/graph/Node;Lcom/example/pushout_bench/pushoutbench/graph/Node;)V"⟩ : MethodName) (head1 (Jvm.Cond.code (⟨"com/example/pushout_bench/pushoutbench/graph/Edge", "<init>", "(Ljava/lang/String;Ljava/lang/String;Lcom/example/pushout_bench/pushoutbench/graph/Node;Lcom/example/pushout_bench/pushoutbench/graph/Node;)V"⟩ : MethodName) prog_59_method_1_code 5 none :: ws) ({ frames := 5, cells := 1, slots := 12, locals := 64 } : Room)) (fun a U => a = #[(.ref o0), (.ref o1), (.ref o2), (.ref o3), (.ref o4)] ∧ Z.Warmed39 U.vm ∧ U.heap = h0) (fun _ _ _ _ _ => True) (fun _ U o U' => ∃ v L, o = .returned v ∧ Q10 Z o0 o1 o2 o3 o4 h0 n0 v U'.heap L ∧ FrameEnd U o U' L ({ frames := 5, cells := 1, slots := 12, locals := 64 } : Room).cells ({ frames := 5, cells := 1, slots := 12, locals := 64 } : Room).slots) := by
  refine MetFree.of_bodySF (plainFor_of_name pn_10) hisR ?_
  intro p e s m args below meth c s₁ Bd hml0 hP hK
  obtain ⟨rfl, hZ, hh⟩ := hP
  have hx := Bd.exec
  have hby := Bd.bytes
  have hml : c.maxLocals = 5 := hml0
  have hown : s.vm.findClass "com/example/pushout_bench/pushoutbench/graph/Edge" = some m.cls := findClass_of_methodNamed Bd.named
  have hnm := (name_of_methodNamed Bd.named Bd.method).1
  have X0 : Stand p l e ({ frames := 5, cells := 1, slots := 12, locals := 64 } : Room) s m #[(.ref o0), (.ref o1), (.ref o2), (.ref o3), (.ref o4)] below meth c s₁ [] 0 0 := Stand.of_body Bd
  have e0 : s₁.heap = h0 := by rw [← hh, Bd.state]; rfl
  have N0 := Fr.nil n0
  show OGo p e below s (Q10 Z o0 o1 o2 o3 o4 h0 n0) ({ frames := 5, cells := 1, slots := 12, locals := 64 } : Room).cells ({ frames := 5, cells := 1, slots := 12, locals := 64 } : Room).slots _
  refine OGo.st (fun _ k => castTop (ef_10 m o0 o1 o2 o3 o4) k) ?_
  show OGo p e below s _ _ _ (s₁.setTop (mkF m 0 #[.val (.ref o0), .val (.ref o1), .val (.ref o2), .val (.ref o3), .val (.ref o4)] []))
  refine OGo.st (fun _ k => XS.aloadN X0.here hx rfl (hb hby d10_0) rfl rfl k) ?_
  show OGo p e below s _ _ _ (s₁.setTop (mkF m 1 #[.val (.ref o0), .val (.ref o1), .val (.ref o2), .val (.ref o3), .val (.ref o4)] [(.ref o0)]))
  refine OGo.st (fun _ k => XS.aloadN X0.here hx rfl (hb hby d10_1) rfl rfl k) ?_
  show OGo p e below s _ _ _ (s₁.setTop (mkF m 2 #[.val (.ref o0), .val (.ref o1), .val (.ref o2), .val (.ref o3), .val (.ref o4)] [(.ref o1), (.ref o0)]))
  refine OGo.st (fun _ k => XS.aloadN X0.here hx rfl (hb hby d10_2) rfl rfl k) ?_
  show OGo p e below s _ _ _ (s₁.setTop (mkF m 3 #[.val (.ref o0), .val (.ref o1), .val (.ref o2), .val (.ref o3), .val (.ref o4)] [(.ref o2), (.ref o1), (.ref o0)]))
  obtain ⟨_, _, ⟨T1, L1, k1, n1⟩, -, X1, ⟨Lc1, hQ1, l1, y1, z1⟩, st1⟩ := X0.specialBack hx (y := (⟨"com/example/pushout_bench/pushoutbench/graph/Element", "<init>", "(Ljava/lang/String;Ljava/lang/String;)V"⟩ : MethodName)) rfl hown (mvT hZ (hw _ (List.mem_of_getElem? (i := 93) rfl))) (mvT hZ (hw _ (List.mem_of_getElem? (i := 16) rfl))) (mvT hZ (hw _ (List.mem_of_getElem? (i := 19) rfl))) (by decide) (backOf (W := 0) (rm2Edge l Z a0 hw [] o0 o1 o2 h0 n0 Z0 E_o0 F_attributes F_id F_type F_source F_target F_serial g_o0) hZ (hw _ (List.mem_of_getElem? (i := 19) rfl)) (hw _ (List.mem_of_getElem? (i := 18) rfl)) (by decide) (by decide)) (g := (mkF m 3 #[.val (.ref o0), .val (.ref o1), .val (.ref o2), .val (.ref o3), .val (.ref o4)] [(.ref o2), (.ref o1), (.ref o0)])) rfl (by rw [hml]; rfl) (Steps.refl _) (a := o0) (argsL := [(.ref o1), (.ref o2)]) (rest := []) (lenOf pd_10_0 rfl) rfl (by show 2 * 0 + _ ≤ _; exact Nat.le_of_eq rfl) (hb hby d10_3) (fun _ _ => ⟨rfl, e0, (by decide : 0 + 1 ≤ _), (by decide : 0 + 12 ≤ _)⟩)
  dsimp only [Pt.U, Pt.locs, Pt.cells, Pt.slots] at X1 l1 y1 z1 st1 hQ1
  subst l1 y1 z1
  obtain ⟨rfl, N1q, Kc1, G1_0, G1_1, G1_2⟩ := hQ1
  have E_o0_w1 := E_o0.keep Kc1
  have K1 : Keep h0 T1.heap [o0] := (Keep.refl h0 _).trans Kc1 (allS (Or.inl (List.mem_of_getElem? (i := 0) rfl)) all0)
  have Z1 : n0 ≤ T1.heap.size := Nat.le_trans Z0 Kc1.1
  have N1 := Fr.app N0 N1q
  refine OGo.st (fun _ k => st1.trans k) ?_
  show OGo p e below s _ _ _ (T1.setTop (mkF m 6 #[.val (.ref o0), .val (.ref o1), .val (.ref o2), .val (.ref o3), .val (.ref o4)] []))
  refine OGo.st (fun _ k => XS.aloadN X1.here hx rfl (hb hby d10_6) rfl rfl k) ?_
  show OGo p e below s _ _ _ (T1.setTop (mkF m 7 #[.val (.ref o0), .val (.ref o1), .val (.ref o2), .val (.ref o3), .val (.ref o4)] [(.ref o0)]))
  refine OGo.st (fun _ k => XS.aloadN X1.here hx rfl (hb hby d10_7) rfl rfl k) ?_
  show OGo p e below s _ _ _ (T1.setTop (mkF m 8 #[.val (.ref o0), .val (.ref o1), .val (.ref o2), .val (.ref o3), .val (.ref o4)] [(.ref o3), (.ref o0)]))
  obtain ⟨T2, h2, X2, e2, W2, st2⟩ := putF X1 hx hZ hown (host := "") (Or.inl (hw _ (List.mem_of_getElem? (i := 97) rfl))) Via.refl rfl G1_0 E_o0_w1 (Or.inr ⟨(hw _ (List.mem_of_getElem? (i := 98) rfl)), rfl, hnm⟩) (hw _ (List.mem_of_getElem? (i := 87) rfl)) (ty := (.object "com/example/pushout_bench/pushoutbench/graph/Node")) (by decide) rfl rfl (g := (mkF m 8 #[.val (.ref o0), .val (.ref o1), .val (.ref o2), .val (.ref o3), .val (.ref o4)] [(.ref o3), (.ref o0)])) rfl rfl (hb hby d10_8)
  refine OGo.st st2 ?_
  have E_o0_w2 := E_o0_w1.wr W2
  have G1_1_w2 := G1_1.other W2 (Or.inr (slot_ne (a0 := a0) (Or.inr (hw _ (List.mem_of_getElem? (i := 100) rfl))) (Or.inr (hw _ (List.mem_of_getElem? (i := 98) rfl))) (by decide) (t := (.object "com/example/pushout_bench/pushoutbench/graph/Node")) (t' := (.object "com/example/pushout_bench/pushoutbench/graph/Node")) (by decide) (by decide)))
  have G1_2_w2 := G1_2.other W2 (Or.inr (slot_ne (a0 := a0) (Or.inl (hw _ (List.mem_of_getElem? (i := 103) rfl))) (Or.inr (hw _ (List.mem_of_getElem? (i := 98) rfl))) (by decide) (t := .long) (t' := (.object "com/example/pushout_bench/pushoutbench/graph/Node")) (by decide) (by decide)))
  have K2 : Keep h0 h2 [o0] := (K1).wr W2 (Or.inl (List.mem_of_getElem? (i := 0) rfl))
  have N2 := Fr.snoc X2 N1 g_o0
  have Z2 : n0 ≤ h2.size := Nat.le_trans Z1 (Keep.of_wr W2).1
  have F2 : Fld Z h2 o0 "com/example/pushout_bench/pushoutbench/graph/Edge" "source" "Lcom/example/pushout_bench/pushoutbench/graph/Node;" (.ref o3) := G1_0.same W2
  show OGo p e below s _ _ _ (T2.setTop (mkF m 11 #[.val (.ref o0), .val (.ref o1), .val (.ref o2), .val (.ref o3), .val (.ref o4)] []))
  refine OGo.st (fun _ k => XS.aloadN X2.here hx rfl (hb hby d10_11) rfl rfl k) ?_
  show OGo p e below s _ _ _ (T2.setTop (mkF m 12 #[.val (.ref o0), .val (.ref o1), .val (.ref o2), .val (.ref o3), .val (.ref o4)] [(.ref o0)]))
  refine OGo.st (fun _ k => XS.aload X2.here hx rfl (hb hby d10_12) rfl rfl k) ?_
  show OGo p e below s _ _ _ (T2.setTop (mkF m 14 #[.val (.ref o0), .val (.ref o1), .val (.ref o2), .val (.ref o3), .val (.ref o4)] [(.ref o4), (.ref o0)]))
  obtain ⟨T3, h3, X3, e3, W3, st3⟩ := putF X2 hx hZ hown (host := "") (Or.inl (hw _ (List.mem_of_getElem? (i := 99) rfl))) Via.refl e2 G1_1_w2 E_o0_w2 (Or.inr ⟨(hw _ (List.mem_of_getElem? (i := 100) rfl)), rfl, hnm⟩) (hw _ (List.mem_of_getElem? (i := 87) rfl)) (ty := (.object "com/example/pushout_bench/pushoutbench/graph/Node")) (by decide) rfl rfl (g := (mkF m 14 #[.val (.ref o0), .val (.ref o1), .val (.ref o2), .val (.ref o3), .val (.ref o4)] [(.ref o4), (.ref o0)])) rfl rfl (hb hby d10_14)
  refine OGo.st st3 ?_
  have E_o0_w3 := E_o0_w2.wr W3
  have F2_w3 := F2.other W3 (Or.inr (slot_ne (a0 := a0) (Or.inr (hw _ (List.mem_of_getElem? (i := 98) rfl))) (Or.inr (hw _ (List.mem_of_getElem? (i := 100) rfl))) (by decide) (t := (.object "com/example/pushout_bench/pushoutbench/graph/Node")) (t' := (.object "com/example/pushout_bench/pushoutbench/graph/Node")) (by decide) (by decide)))
  have G1_2_w3 := G1_2_w2.other W3 (Or.inr (slot_ne (a0 := a0) (Or.inl (hw _ (List.mem_of_getElem? (i := 103) rfl))) (Or.inr (hw _ (List.mem_of_getElem? (i := 100) rfl))) (by decide) (t := .long) (t' := (.object "com/example/pushout_bench/pushoutbench/graph/Node")) (by decide) (by decide)))
  have K3 : Keep h0 h3 [o0] := (K2).wr W3 (Or.inl (List.mem_of_getElem? (i := 0) rfl))
  have N3 := Fr.snoc X3 N2 g_o0
  have Z3 : n0 ≤ h3.size := Nat.le_trans Z2 (Keep.of_wr W3).1
  have F3 : Fld Z h3 o0 "com/example/pushout_bench/pushoutbench/graph/Edge" "target" "Lcom/example/pushout_bench/pushoutbench/graph/Node;" (.ref o4) := G1_1_w2.same W3
  show OGo p e below s _ _ _ (T3.setTop (mkF m 17 #[.val (.ref o0), .val (.ref o1), .val (.ref o2), .val (.ref o3), .val (.ref o4)] []))
  exact oret0 X3 hx Bd.notSynchronized Bd.returns (hb hby d10_17) e3 ⟨rfl, N3, K3, G1_2_w3⟩ (by decide) (by decide)
theorem d11_0 : decode prog_57_method_1_code 0 = .ok (.aload_n 0, 1) := by decide +kernel
theorem d11_1 : decode prog_57_method_1_code 1 = .ok (.invokespecial 1, 3) := by decide +kernel
theorem d11_4 : decode prog_57_method_1_code 4 = .ok (.aload_n 0, 1) := by decide +kernel
theorem d11_5 : decode prog_57_method_1_code 5 = .ok (.new 7, 3) := by decide +kernel
theorem d11_8 : decode prog_57_method_1_code 8 = .ok (.dup, 1) := by decide +kernel
theorem d11_9 : decode prog_57_method_1_code 9 = .ok (.invokespecial 9, 3) := by decide +kernel
theorem d11_12 : decode prog_57_method_1_code 12 = .ok (.putfield 10, 3) := by decide +kernel
theorem d11_15 : decode prog_57_method_1_code 15 = .ok (.aload_n 0, 1) := by decide +kernel
theorem d11_16 : decode prog_57_method_1_code 16 = .ok (.new 16, 3) := by decide +kernel
theorem d11_19 : decode prog_57_method_1_code 19 = .ok (.dup, 1) := by decide +kernel
theorem d11_20 : decode prog_57_method_1_code 20 = .ok (.invokespecial 18, 3) := by decide +kernel
theorem d11_23 : decode prog_57_method_1_code 23 = .ok (.putfield 19, 3) := by decide +kernel
theorem d11_26 : decode prog_57_method_1_code 26 = .ok (.aload_n 0, 1) := by decide +kernel
theorem d11_27 : decode prog_57_method_1_code 27 = .ok (.new 22, 3) := by decide +kernel
theorem d11_30 : decode prog_57_method_1_code 30 = .ok (.dup, 1) := by decide +kernel
theorem d11_31 : decode prog_57_method_1_code 31 = .ok (.invokespecial 24, 3) := by decide +kernel
theorem d11_34 : decode prog_57_method_1_code 34 = .ok (.putfield 25, 3) := by decide +kernel
theorem d11_37 : decode prog_57_method_1_code 37 = .ok (.aload_n 0, 1) := by decide +kernel
theorem d11_38 : decode prog_57_method_1_code 38 = .ok (.new 16, 3) := by decide +kernel
theorem d11_41 : decode prog_57_method_1_code 41 = .ok (.dup, 1) := by decide +kernel
theorem d11_42 : decode prog_57_method_1_code 42 = .ok (.invokespecial 18, 3) := by decide +kernel
theorem d11_45 : decode prog_57_method_1_code 45 = .ok (.putfield 29, 3) := by decide +kernel
theorem d11_48 : decode prog_57_method_1_code 48 = .ok (.aload_n 0, 1) := by decide +kernel
theorem d11_49 : decode prog_57_method_1_code 49 = .ok (.new 16, 3) := by decide +kernel
theorem d11_52 : decode prog_57_method_1_code 52 = .ok (.dup, 1) := by decide +kernel
theorem d11_53 : decode prog_57_method_1_code 53 = .ok (.invokespecial 18, 3) := by decide +kernel
theorem d11_56 : decode prog_57_method_1_code 56 = .ok (.putfield 32, 3) := by decide +kernel
theorem d11_59 : decode prog_57_method_1_code 59 = .ok (.aload_n 0, 1) := by decide +kernel
theorem d11_60 : decode prog_57_method_1_code 60 = .ok (.lload_n 1, 1) := by decide +kernel
theorem d11_61 : decode prog_57_method_1_code 61 = .ok (.putfield 35, 3) := by decide +kernel
theorem d11_64 : decode prog_57_method_1_code 64 = .ok (.return_, 1) := by decide +kernel
theorem pn_11 : plainName "com/example/pushout_bench/pushoutbench/graph/Changes" = true := by first | (simp [plainName, overriddenIn]; done) | decide +kernel
theorem pd_11_0 : parseMethodDescriptor "()V" = some ⟨[], none⟩ := by decide +kernel
theorem ef_11 (m : MethodId) (o0 : Addr) (q1 : Int64) : entryFrame m #[(.ref o0), (.long q1)] 3 = mkF m 0 #[.val (.ref o0), .val (.long q1), .second] [] := by first | (simp [entryFrame, mkF, argsToLocals, Value.category]; done) | rfl
def Q11 (Z : State) (o0 : Addr) (q1 : Int64) (h0 : Heap) (n0 : Nat) (v : Option Value) (h : Heap) (L : List Loc) : Prop := v = none ∧ Fr n0 L ∧ Keep h0 h [o0] ∧ Fld Z h o0 "com/example/pushout_bench/pushoutbench/graph/Changes" "markSerial" "J" (.long q1)
set_option maxRecDepth 65536 in
set_option maxHeartbeats 40000000 in
theorem rm11 (l : Launch) (Z : State) (a0 : Array Value) (hw : ∀ d ∈ tables_1, d.before a0 Z = true) (ws : List Jvm.Cond) (o0 : Addr) (q1 : Int64) (h0 : Heap) (n0 : Nat) (Z0 : n0 ≤ h0.size) (E_o0 : Exa Z h0 o0 "com/example/pushout_bench/pushoutbench/graph/Changes") (F_attributes : Fld Z h0 o0 "com/example/pushout_bench/pushoutbench/graph/Changes" "attributes" "Ljava/util/Map;" .null) (F_added : Fld Z h0 o0 "com/example/pushout_bench/pushoutbench/graph/Changes" "added" "Ljava/util/Map;" .null) (F_addedOrRemoved : Fld Z h0 o0 "com/example/pushout_bench/pushoutbench/graph/Changes" "addedOrRemoved" "Ljava/util/Set;" .null) (F_removedOutgoing : Fld Z h0 o0 "com/example/pushout_bench/pushoutbench/graph/Changes" "removedOutgoing" "Ljava/util/Map;" .null) (F_removedIncoming : Fld Z h0 o0 "com/example/pushout_bench/pushoutbench/graph/Changes" "removedIncoming" "Ljava/util/Map;" .null) (F_markSerial : Fld Z h0 o0 "com/example/pushout_bench/pushoutbench/graph/Changes" "markSerial" "J" (.long (0 : Int64))) (g_o0 : n0 ≤ o0) :
    MetFree l (⟨"com/example/pushout_bench/pushoutbench/graph/Changes", "<init>", "(J)V"⟩ : MethodName) (head1 (Jvm.Cond.code (⟨"com/example/pushout_bench/pushoutbench/graph/Changes", "<init>", "(J)V"⟩ : MethodName) prog_57_method_1_code 3 none :: ws) ({ frames := 4, cells := 6, slots := 45, locals := 52 } : Room)) (fun a U => a = #[(.ref o0), (.long q1)] ∧ Z.Warmed39 U.vm ∧ U.heap = h0) (fun _ _ _ _ _ => True) (fun _ U o U' => ∃ v L, o = .returned v ∧ Q11 Z o0 q1 h0 n0 v U'.heap L ∧ FrameEnd U o U' L ({ frames := 4, cells := 6, slots := 45, locals := 52 } : Room).cells ({ frames := 4, cells := 6, slots := 45, locals := 52 } : Room).slots) := by
  refine MetFree.of_bodySF (plainFor_of_name pn_11) hisR ?_
  intro p e s m args below meth c s₁ Bd hml0 hP hK
  obtain ⟨rfl, hZ, hh⟩ := hP
  have hx := Bd.exec
  have hby := Bd.bytes
  have hml : c.maxLocals = 3 := hml0
  have hown : s.vm.findClass "com/example/pushout_bench/pushoutbench/graph/Changes" = some m.cls := findClass_of_methodNamed Bd.named
  have hnm := (name_of_methodNamed Bd.named Bd.method).1
  have X0 : Stand p l e ({ frames := 4, cells := 6, slots := 45, locals := 52 } : Room) s m #[(.ref o0), (.long q1)] below meth c s₁ [] 0 0 := Stand.of_body Bd
  have e0 : s₁.heap = h0 := by rw [← hh, Bd.state]; rfl
  have N0 := Fr.nil n0
  show OGo p e below s (Q11 Z o0 q1 h0 n0) ({ frames := 4, cells := 6, slots := 45, locals := 52 } : Room).cells ({ frames := 4, cells := 6, slots := 45, locals := 52 } : Room).slots _
  refine OGo.st (fun _ k => castTop (ef_11 m o0 q1) k) ?_
  show OGo p e below s _ _ _ (s₁.setTop (mkF m 0 #[.val (.ref o0), .val (.long q1), .second] []))
  refine OGo.st (fun _ k => XS.aloadN X0.here hx rfl (hb hby d11_0) rfl rfl k) ?_
  show OGo p e below s _ _ _ (s₁.setTop (mkF m 1 #[.val (.ref o0), .val (.long q1), .second] [(.ref o0)]))
  obtain ⟨T1, X1, e1, st1⟩ := initO X0 hx hZ hown (hw _ (List.mem_of_getElem? (i := 111) rfl)) (hw _ (List.mem_of_getElem? (i := 21) rfl)) (hw _ (List.mem_of_getElem? (i := 22) rfl)) e0 (g := (mkF m 1 #[.val (.ref o0), .val (.long q1), .second] [(.ref o0)])) rfl (by rw [hml]; rfl) rfl (hb hby d11_1) (by decide) (W := 0) (by show 2 * 0 + _ ≤ _; exact Nat.le_of_eq rfl) (by decide)
  refine OGo.st st1 ?_
  show OGo p e below s _ _ _ (T1.setTop (mkF m 4 #[.val (.ref o0), .val (.long q1), .second] []))
  refine OGo.st (fun _ k => XS.aloadN X1.here hx rfl (hb hby d11_4) rfl rfl k) ?_
  show OGo p e below s _ _ _ (T1.setTop (mkF m 5 #[.val (.ref o0), .val (.long q1), .second] [(.ref o0)]))
  obtain ⟨T2, h2, X2, e2, E2, A2, D2, U2, st2⟩ := newO X1 hx hZ hown (hw _ (List.mem_of_getElem? (i := 112) rfl)) (hw _ (List.mem_of_getElem? (i := 24) rfl)) (hw _ (List.mem_of_getElem? (i := 25) rfl)) e1 (g := (mkF m 5 #[.val (.ref o0), .val (.long q1), .second] [(.ref o0)])) rfl (hb hby d11_5) (by decide) (by decide)
  obtain ⟨b2, g2⟩ : ∃ z, z = h0.size := ⟨_, rfl⟩
  rw [← g2] at A2 D2 U2 st2
  refine OGo.st st2 ?_
  have E_o0_w2 := E_o0.ext E2
  have ne_o0_b2 : o0 ≠ b2 := Nat.ne_of_lt (Nat.lt_of_lt_of_le E_o0.lt (Nat.le_of_eq g2.symm))
  have F_attributes_w2 := F_attributes.ext E2
  have F_added_w2 := F_added.ext E2
  have F_addedOrRemoved_w2 := F_addedOrRemoved.ext E2
  have F_removedOutgoing_w2 := F_removedOutgoing.ext E2
  have F_removedIncoming_w2 := F_removedIncoming.ext E2
  have F_markSerial_w2 := F_markSerial.ext E2
  have g_b2 : n0 ≤ b2 := Nat.le_trans Z0 (Nat.le_of_eq g2.symm)
  have sz_b2 : h0.size ≤ b2 := Nat.le_trans (Keep.refl h0 []).1 (Nat.le_of_eq g2.symm)
  have K2 : Keep h0 h2 [o0] := (Keep.refl h0 _).ext E2
  have Z2 : n0 ≤ h2.size := Nat.le_trans Z0 E2.1
  have F_loadFactor_b2 : Fld Z h2 b2 "java/util/HashMap" "loadFactor" "F" (.float 0) := D2 (Or.inr (hw _ (List.mem_of_getElem? (i := 44) rfl))) (ty := .float) (by decide)
  have F_putMode_b2 : Fld Z h2 b2 "java/util/LinkedHashMap" "putMode" "I" (.int (0 : Int32)) := D2 (Or.inl (hw _ (List.mem_of_getElem? (i := 46) rfl))) (ty := .int) (by decide)
  have F_accessOrder_b2 : Fld Z h2 b2 "java/util/LinkedHashMap" "accessOrder" "Z" (.int (0 : Int32)) := D2 (Or.inr (hw _ (List.mem_of_getElem? (i := 48) rfl))) (ty := .boolean) (by decide)
  show OGo p e below s _ _ _ (T2.setTop (mkF m 8 #[.val (.ref o0), .val (.long q1), .second] [(.ref b2), (.ref o0)]))
  refine OGo.st (fun _ k => XS.dup X2.here hx rfl (hb hby d11_8) rfl rfl k) ?_
  show OGo p e below s _ _ _ (T2.setTop (mkF m 9 #[.val (.ref o0), .val (.long q1), .second] [(.ref b2), (.ref b2), (.ref o0)]))
  obtain ⟨_, _, ⟨T3, L3, k3, n3⟩, -, X3, ⟨Lc3, hQ3, l3, y3, z3⟩, st3⟩ := X2.specialBack hx (y := (⟨"java/util/LinkedHashMap", "<init>", "()V"⟩ : MethodName)) rfl hown (mvT hZ (hw _ (List.mem_of_getElem? (i := 113) rfl))) (mvT hZ (hw _ (List.mem_of_getElem? (i := 27) rfl))) (mvT hZ (hw _ (List.mem_of_getElem? (i := 28) rfl))) (by decide) (backOf (W := 2) (rm4 l Z a0 hw [] b2 h2 n0 Z2 A2 F_loadFactor_b2 F_putMode_b2 F_accessOrder_b2 g_b2) hZ (hw _ (List.mem_of_getElem? (i := 28) rfl)) (hw _ (List.mem_of_getElem? (i := 25) rfl)) (by decide) (by decide)) (g := (mkF m 9 #[.val (.ref o0), .val (.long q1), .second] [(.ref b2), (.ref b2), (.ref o0)])) rfl (by rw [hml]; rfl) (Steps.refl _) (a := b2) (argsL := []) (rest := [(.ref b2), (.ref o0)]) (lenOf pd_11_0 rfl) rfl (by show 2 * 0 + _ ≤ _; exact Nat.le_of_eq rfl) (hb hby d11_9) (fun _ _ => ⟨rfl, e2, (by decide : 1 + 0 ≤ _), (by decide : 12 + 0 ≤ _)⟩)
  dsimp only [Pt.U, Pt.locs, Pt.cells, Pt.slots] at X3 l3 y3 z3 st3 hQ3
  subst l3 y3 z3
  obtain ⟨rfl, N3q, Kc3⟩ := hQ3
  have E_o0_w3 := E_o0_w2.keep Kc3
  have F_attributes_w3 := F_attributes_w2.keep Kc3 (ninS ne_o0_b2 nin0)
  have F_added_w3 := F_added_w2.keep Kc3 (ninS ne_o0_b2 nin0)
  have F_addedOrRemoved_w3 := F_addedOrRemoved_w2.keep Kc3 (ninS ne_o0_b2 nin0)
  have F_removedOutgoing_w3 := F_removedOutgoing_w2.keep Kc3 (ninS ne_o0_b2 nin0)
  have F_removedIncoming_w3 := F_removedIncoming_w2.keep Kc3 (ninS ne_o0_b2 nin0)
  have F_markSerial_w3 := F_markSerial_w2.keep Kc3 (ninS ne_o0_b2 nin0)
  have A2_w3 := A2.keep Kc3
  have K3 : Keep h0 T3.heap [o0] := (K2).trans Kc3 (allS (Or.inr sz_b2) all0)
  have Z3 : n0 ≤ T3.heap.size := Nat.le_trans Z2 Kc3.1
  have N3 := Fr.app N0 N3q
  refine OGo.st (fun _ k => st3.trans k) ?_
  show OGo p e below s _ _ _ (T3.setTop (mkF m 12 #[.val (.ref o0), .val (.long q1), .second] [(.ref b2), (.ref o0)]))
  obtain ⟨T4, h4, X4, e4, W4, st4⟩ := putF X3 hx hZ hown (host := "") (Or.inl (hw _ (List.mem_of_getElem? (i := 114) rfl))) Via.refl rfl F_attributes_w3 E_o0_w3 (Or.inr ⟨(hw _ (List.mem_of_getElem? (i := 115) rfl)), rfl, hnm⟩) (hw _ (List.mem_of_getElem? (i := 106) rfl)) (ty := (.object "java/util/Map")) (by decide) rfl rfl (g := (mkF m 12 #[.val (.ref o0), .val (.long q1), .second] [(.ref b2), (.ref o0)])) rfl rfl (hb hby d11_12)
  refine OGo.st st4 ?_
  have E_o0_w4 := E_o0_w3.wr W4
  have F_added_w4 := F_added_w3.other W4 (Or.inr (slot_ne (a0 := a0) (Or.inr (hw _ (List.mem_of_getElem? (i := 122) rfl))) (Or.inr (hw _ (List.mem_of_getElem? (i := 115) rfl))) (by decide) (t := (.object "java/util/Map")) (t' := (.object "java/util/Map")) (by decide) (by decide)))
  have F_addedOrRemoved_w4 := F_addedOrRemoved_w3.other W4 (Or.inr (slot_ne (a0 := a0) (Or.inr (hw _ (List.mem_of_getElem? (i := 143) rfl))) (Or.inr (hw _ (List.mem_of_getElem? (i := 115) rfl))) (by decide) (t := (.object "java/util/Set")) (t' := (.object "java/util/Map")) (by decide) (by decide)))
  have F_removedOutgoing_w4 := F_removedOutgoing_w3.other W4 (Or.inr (slot_ne (a0 := a0) (Or.inr (hw _ (List.mem_of_getElem? (i := 145) rfl))) (Or.inr (hw _ (List.mem_of_getElem? (i := 115) rfl))) (by decide) (t := (.object "java/util/Map")) (t' := (.object "java/util/Map")) (by decide) (by decide)))
  have F_removedIncoming_w4 := F_removedIncoming_w3.other W4 (Or.inr (slot_ne (a0 := a0) (Or.inr (hw _ (List.mem_of_getElem? (i := 147) rfl))) (Or.inr (hw _ (List.mem_of_getElem? (i := 115) rfl))) (by decide) (t := (.object "java/util/Map")) (t' := (.object "java/util/Map")) (by decide) (by decide)))
  have F_markSerial_w4 := F_markSerial_w3.other W4 (Or.inr (slot_ne (a0 := a0) (Or.inr (hw _ (List.mem_of_getElem? (i := 149) rfl))) (Or.inr (hw _ (List.mem_of_getElem? (i := 115) rfl))) (by decide) (t := .long) (t' := (.object "java/util/Map")) (by decide) (by decide)))
  have A2_w4 := A2_w3.wr W4
  have K4 : Keep h0 h4 [o0] := (K3).wr W4 (Or.inl (List.mem_of_getElem? (i := 0) rfl))
  have N4 := Fr.snoc X4 N3 g_o0
  have Z4 : n0 ≤ h4.size := Nat.le_trans Z3 (Keep.of_wr W4).1
  have F4 : Fld Z h4 o0 "com/example/pushout_bench/pushoutbench/graph/Changes" "attributes" "Ljava/util/Map;" (.ref b2) := F_attributes_w3.same W4
  show OGo p e below s _ _ _ (T4.setTop (mkF m 15 #[.val (.ref o0), .val (.long q1), .second] []))
  refine OGo.st (fun _ k => XS.aloadN X4.here hx rfl (hb hby d11_15) rfl rfl k) ?_
  show OGo p e below s _ _ _ (T4.setTop (mkF m 16 #[.val (.ref o0), .val (.long q1), .second] [(.ref o0)]))
  obtain ⟨T5, h5, X5, e5, E5, A5, D5, U5, st5⟩ := newO X4 hx hZ hown (hw _ (List.mem_of_getElem? (i := 116) rfl)) (hw _ (List.mem_of_getElem? (i := 117) rfl)) (hw _ (List.mem_of_getElem? (i := 33) rfl)) e4 (g := (mkF m 16 #[.val (.ref o0), .val (.long q1), .second] [(.ref o0)])) rfl (hb hby d11_16) (by decide) (by decide)
  obtain ⟨b5, g5⟩ : ∃ z, z = h4.size := ⟨_, rfl⟩
  rw [← g5] at A5 D5 U5 st5
  refine OGo.st st5 ?_
  have E_o0_w5 := E_o0_w4.ext E5
  have ne_o0_b5 : o0 ≠ b5 := Nat.ne_of_lt (Nat.lt_of_lt_of_le E_o0_w4.lt (Nat.le_of_eq g5.symm))
  have F4_w5 := F4.ext E5
  have F_added_w5 := F_added_w4.ext E5
  have F_addedOrRemoved_w5 := F_addedOrRemoved_w4.ext E5
  have F_removedOutgoing_w5 := F_removedOutgoing_w4.ext E5
  have F_removedIncoming_w5 := F_removedIncoming_w4.ext E5
  have F_markSerial_w5 := F_markSerial_w4.ext E5
  have A2_w5 := A2_w4.ext E5
  have ne_b2_b5 : b2 ≠ b5 := Nat.ne_of_lt (Nat.lt_of_lt_of_le A2_w4.lt (Nat.le_of_eq g5.symm))
  have g_b5 : n0 ≤ b5 := Nat.le_trans Z4 (Nat.le_of_eq g5.symm)
  have sz_b5 : h0.size ≤ b5 := Nat.le_trans (K4).1 (Nat.le_of_eq g5.symm)
  have K5 : Keep h0 h5 [o0] := (K4).ext E5
  have Z5 : n0 ≤ h5.size := Nat.le_trans Z4 E5.1
  have F_loadFactor_b5 : Fld Z h5 b5 "java/util/HashMap" "loadFactor" "F" (.float 0) := D5 (Or.inr (hw _ (List.mem_of_getElem? (i := 120) rfl))) (ty := .float) (by decide)
  show OGo p e below s _ _ _ (T5.setTop (mkF m 19 #[.val (.ref o0), .val (.long q1), .second] [(.ref b5), (.ref o0)]))
  refine OGo.st (fun _ k => XS.dup X5.here hx rfl (hb hby d11_19) rfl rfl k) ?_
  show OGo p e below s _ _ _ (T5.setTop (mkF m 20 #[.val (.ref o0), .val (.long q1), .second] [(.ref b5), (.ref b5), (.ref o0)]))
  obtain ⟨_, _, ⟨T6, L6, k6, n6⟩, -, X6, ⟨Lc6, hQ6, l6, y6, z6⟩, st6⟩ := X5.specialBack hx (y := (⟨"java/util/HashMap", "<init>", "()V"⟩ : MethodName)) rfl hown (mvT hZ (hw _ (List.mem_of_getElem? (i := 118) rfl))) (mvT hZ (hw _ (List.mem_of_getElem? (i := 30) rfl))) (mvT hZ (hw _ (List.mem_of_getElem? (i := 34) rfl))) (by decide) (backOf (W := 2) (rm5H l Z a0 hw [] b5 h5 n0 Z5 A5 F_loadFactor_b5 g_b5) hZ (hw _ (List.mem_of_getElem? (i := 34) rfl)) (hw _ (List.mem_of_getElem? (i := 33) rfl)) (by decide) (by decide)) (g := (mkF m 20 #[.val (.ref o0), .val (.long q1), .second] [(.ref b5), (.ref b5), (.ref o0)])) rfl (by rw [hml]; rfl) (Steps.refl _) (a := b5) (argsL := []) (rest := [(.ref b5), (.ref o0)]) (lenOf pd_11_0 rfl) rfl (by show 2 * 0 + _ ≤ _; exact Nat.le_of_eq rfl) (hb hby d11_20) (fun _ _ => ⟨rfl, e5, (by decide : 2 + 0 ≤ _), (by decide : 20 + 0 ≤ _)⟩)
  dsimp only [Pt.U, Pt.locs, Pt.cells, Pt.slots] at X6 l6 y6 z6 st6 hQ6
  subst l6 y6 z6
  obtain ⟨rfl, N6q, Kc6⟩ := hQ6
  have E_o0_w6 := E_o0_w5.keep Kc6
  have F4_w6 := F4_w5.keep Kc6 (ninS ne_o0_b5 nin0)
  have F_added_w6 := F_added_w5.keep Kc6 (ninS ne_o0_b5 nin0)
  have F_addedOrRemoved_w6 := F_addedOrRemoved_w5.keep Kc6 (ninS ne_o0_b5 nin0)
  have F_removedOutgoing_w6 := F_removedOutgoing_w5.keep Kc6 (ninS ne_o0_b5 nin0)
  have F_removedIncoming_w6 := F_removedIncoming_w5.keep Kc6 (ninS ne_o0_b5 nin0)
  have F_markSerial_w6 := F_markSerial_w5.keep Kc6 (ninS ne_o0_b5 nin0)
  have A2_w6 := A2_w5.keep Kc6
  have A5_w6 := A5.keep Kc6
  have K6 : Keep h0 T6.heap [o0] := (K5).trans Kc6 (allS (Or.inr sz_b5) all0)
  have Z6 : n0 ≤ T6.heap.size := Nat.le_trans Z5 Kc6.1
  have N6 := Fr.app N4 N6q
  refine OGo.st (fun _ k => st6.trans k) ?_
  show OGo p e below s _ _ _ (T6.setTop (mkF m 23 #[.val (.ref o0), .val (.long q1), .second] [(.ref b5), (.ref o0)]))
  obtain ⟨T7, h7, X7, e7, W7, st7⟩ := putF X6 hx hZ hown (host := "") (Or.inl (hw _ (List.mem_of_getElem? (i := 121) rfl))) Via.refl rfl F_added_w6 E_o0_w6 (Or.inr ⟨(hw _ (List.mem_of_getElem? (i := 122) rfl)), rfl, hnm⟩) (hw _ (List.mem_of_getElem? (i := 106) rfl)) (ty := (.object "java/util/Map")) (by decide) rfl rfl (g := (mkF m 23 #[.val (.ref o0), .val (.long q1), .second] [(.ref b5), (.ref o0)])) rfl rfl (hb hby d11_23)
  refine OGo.st st7 ?_
  have E_o0_w7 := E_o0_w6.wr W7
  have F4_w7 := F4_w6.other W7 (Or.inr (slot_ne (a0 := a0) (Or.inr (hw _ (List.mem_of_getElem? (i := 115) rfl))) (Or.inr (hw _ (List.mem_of_getElem? (i := 122) rfl))) (by decide) (t := (.object "java/util/Map")) (t' := (.object "java/util/Map")) (by decide) (by decide)))
  have F_addedOrRemoved_w7 := F_addedOrRemoved_w6.other W7 (Or.inr (slot_ne (a0 := a0) (Or.inr (hw _ (List.mem_of_getElem? (i := 143) rfl))) (Or.inr (hw _ (List.mem_of_getElem? (i := 122) rfl))) (by decide) (t := (.object "java/util/Set")) (t' := (.object "java/util/Map")) (by decide) (by decide)))
  have F_removedOutgoing_w7 := F_removedOutgoing_w6.other W7 (Or.inr (slot_ne (a0 := a0) (Or.inr (hw _ (List.mem_of_getElem? (i := 145) rfl))) (Or.inr (hw _ (List.mem_of_getElem? (i := 122) rfl))) (by decide) (t := (.object "java/util/Map")) (t' := (.object "java/util/Map")) (by decide) (by decide)))
  have F_removedIncoming_w7 := F_removedIncoming_w6.other W7 (Or.inr (slot_ne (a0 := a0) (Or.inr (hw _ (List.mem_of_getElem? (i := 147) rfl))) (Or.inr (hw _ (List.mem_of_getElem? (i := 122) rfl))) (by decide) (t := (.object "java/util/Map")) (t' := (.object "java/util/Map")) (by decide) (by decide)))
  have F_markSerial_w7 := F_markSerial_w6.other W7 (Or.inr (slot_ne (a0 := a0) (Or.inr (hw _ (List.mem_of_getElem? (i := 149) rfl))) (Or.inr (hw _ (List.mem_of_getElem? (i := 122) rfl))) (by decide) (t := .long) (t' := (.object "java/util/Map")) (by decide) (by decide)))
  have A2_w7 := A2_w6.wr W7
  have A5_w7 := A5_w6.wr W7
  have K7 : Keep h0 h7 [o0] := (K6).wr W7 (Or.inl (List.mem_of_getElem? (i := 0) rfl))
  have N7 := Fr.snoc X7 N6 g_o0
  have Z7 : n0 ≤ h7.size := Nat.le_trans Z6 (Keep.of_wr W7).1
  have F7 : Fld Z h7 o0 "com/example/pushout_bench/pushoutbench/graph/Changes" "added" "Ljava/util/Map;" (.ref b5) := F_added_w6.same W7
  show OGo p e below s _ _ _ (T7.setTop (mkF m 26 #[.val (.ref o0), .val (.long q1), .second] []))
  refine OGo.st (fun _ k => XS.aloadN X7.here hx rfl (hb hby d11_26) rfl rfl k) ?_
  show OGo p e below s _ _ _ (T7.setTop (mkF m 27 #[.val (.ref o0), .val (.long q1), .second] [(.ref o0)]))
  obtain ⟨T8, h8, X8, e8, E8, A8, D8, U8, st8⟩ := newO X7 hx hZ hown (hw _ (List.mem_of_getElem? (i := 123) rfl)) (hw _ (List.mem_of_getElem? (i := 124) rfl)) (hw _ (List.mem_of_getElem? (i := 125) rfl)) e7 (g := (mkF m 27 #[.val (.ref o0), .val (.long q1), .second] [(.ref o0)])) rfl (hb hby d11_27) (by decide) (by decide)
  obtain ⟨b8, g8⟩ : ∃ z, z = h7.size := ⟨_, rfl⟩
  rw [← g8] at A8 D8 U8 st8
  refine OGo.st st8 ?_
  have E_o0_w8 := E_o0_w7.ext E8
  have ne_o0_b8 : o0 ≠ b8 := Nat.ne_of_lt (Nat.lt_of_lt_of_le E_o0_w7.lt (Nat.le_of_eq g8.symm))
  have F4_w8 := F4_w7.ext E8
  have F7_w8 := F7.ext E8
  have F_addedOrRemoved_w8 := F_addedOrRemoved_w7.ext E8
  have F_removedOutgoing_w8 := F_removedOutgoing_w7.ext E8
  have F_removedIncoming_w8 := F_removedIncoming_w7.ext E8
  have F_markSerial_w8 := F_markSerial_w7.ext E8
  have A2_w8 := A2_w7.ext E8
  have ne_b2_b8 : b2 ≠ b8 := Nat.ne_of_lt (Nat.lt_of_lt_of_le A2_w7.lt (Nat.le_of_eq g8.symm))
  have A5_w8 := A5_w7.ext E8
  have ne_b5_b8 : b5 ≠ b8 := Nat.ne_of_lt (Nat.lt_of_lt_of_le A5_w7.lt (Nat.le_of_eq g8.symm))
  have g_b8 : n0 ≤ b8 := Nat.le_trans Z7 (Nat.le_of_eq g8.symm)
  have sz_b8 : h0.size ≤ b8 := Nat.le_trans (K7).1 (Nat.le_of_eq g8.symm)
  have K8 : Keep h0 h8 [o0] := (K7).ext E8
  have Z8 : n0 ≤ h8.size := Nat.le_trans Z7 E8.1
  have F_map_b8 : Fld Z h8 b8 "java/util/HashSet" "map" "Ljava/util/HashMap;" .null := D8 (Or.inl (hw _ (List.mem_of_getElem? (i := 141) rfl))) (ty := (.object "java/util/HashMap")) (by decide)
  show OGo p e below s _ _ _ (T8.setTop (mkF m 30 #[.val (.ref o0), .val (.long q1), .second] [(.ref b8), (.ref o0)]))
  refine OGo.st (fun _ k => XS.dup X8.here hx rfl (hb hby d11_30) rfl rfl k) ?_
  show OGo p e below s _ _ _ (T8.setTop (mkF m 31 #[.val (.ref o0), .val (.long q1), .second] [(.ref b8), (.ref b8), (.ref o0)]))
  obtain ⟨_, _, ⟨T9, L9, k9, n9⟩, -, X9, ⟨Lc9, hQ9, l9, y9, z9⟩, st9⟩ := X8.specialBack hx (y := (⟨"java/util/HashSet", "<init>", "()V"⟩ : MethodName)) rfl hown (mvT hZ (hw _ (List.mem_of_getElem? (i := 126) rfl))) (mvT hZ (hw _ (List.mem_of_getElem? (i := 127) rfl))) (mvT hZ (hw _ (List.mem_of_getElem? (i := 128) rfl))) (by decide) (backOf (W := 2) (rm12 l Z a0 hw [] b8 h8 n0 Z8 A8 F_map_b8 g_b8) hZ (hw _ (List.mem_of_getElem? (i := 128) rfl)) (hw _ (List.mem_of_getElem? (i := 125) rfl)) (by decide) (by decide)) (g := (mkF m 31 #[.val (.ref o0), .val (.long q1), .second] [(.ref b8), (.ref b8), (.ref o0)])) rfl (by rw [hml]; rfl) (Steps.refl _) (a := b8) (argsL := []) (rest := [(.ref b8), (.ref o0)]) (lenOf pd_11_0 rfl) rfl (by show 2 * 0 + _ ≤ _; exact Nat.le_of_eq rfl) (hb hby d11_31) (fun _ _ => ⟨rfl, e8, (by decide : 3 + 1 ≤ _), (by decide : 21 + 8 ≤ _)⟩)
  dsimp only [Pt.U, Pt.locs, Pt.cells, Pt.slots] at X9 l9 y9 z9 st9 hQ9
  subst l9 y9 z9
  obtain ⟨rfl, N9q, Kc9⟩ := hQ9
  have E_o0_w9 := E_o0_w8.keep Kc9
  have F4_w9 := F4_w8.keep Kc9 (ninS ne_o0_b8 nin0)
  have F7_w9 := F7_w8.keep Kc9 (ninS ne_o0_b8 nin0)
  have F_addedOrRemoved_w9 := F_addedOrRemoved_w8.keep Kc9 (ninS ne_o0_b8 nin0)
  have F_removedOutgoing_w9 := F_removedOutgoing_w8.keep Kc9 (ninS ne_o0_b8 nin0)
  have F_removedIncoming_w9 := F_removedIncoming_w8.keep Kc9 (ninS ne_o0_b8 nin0)
  have F_markSerial_w9 := F_markSerial_w8.keep Kc9 (ninS ne_o0_b8 nin0)
  have A2_w9 := A2_w8.keep Kc9
  have A5_w9 := A5_w8.keep Kc9
  have A8_w9 := A8.keep Kc9
  have K9 : Keep h0 T9.heap [o0] := (K8).trans Kc9 (allS (Or.inr sz_b8) all0)
  have Z9 : n0 ≤ T9.heap.size := Nat.le_trans Z8 Kc9.1
  have N9 := Fr.app N7 N9q
  refine OGo.st (fun _ k => st9.trans k) ?_
  show OGo p e below s _ _ _ (T9.setTop (mkF m 34 #[.val (.ref o0), .val (.long q1), .second] [(.ref b8), (.ref o0)]))
  obtain ⟨T10, h10, X10, e10, W10, st10⟩ := putF X9 hx hZ hown (host := "") (Or.inl (hw _ (List.mem_of_getElem? (i := 142) rfl))) Via.refl rfl F_addedOrRemoved_w9 E_o0_w9 (Or.inr ⟨(hw _ (List.mem_of_getElem? (i := 143) rfl)), rfl, hnm⟩) (hw _ (List.mem_of_getElem? (i := 106) rfl)) (ty := (.object "java/util/Set")) (by decide) rfl rfl (g := (mkF m 34 #[.val (.ref o0), .val (.long q1), .second] [(.ref b8), (.ref o0)])) rfl rfl (hb hby d11_34)
  refine OGo.st st10 ?_
  have E_o0_w10 := E_o0_w9.wr W10
  have F4_w10 := F4_w9.other W10 (Or.inr (slot_ne (a0 := a0) (Or.inr (hw _ (List.mem_of_getElem? (i := 115) rfl))) (Or.inr (hw _ (List.mem_of_getElem? (i := 143) rfl))) (by decide) (t := (.object "java/util/Map")) (t' := (.object "java/util/Set")) (by decide) (by decide)))
  have F7_w10 := F7_w9.other W10 (Or.inr (slot_ne (a0 := a0) (Or.inr (hw _ (List.mem_of_getElem? (i := 122) rfl))) (Or.inr (hw _ (List.mem_of_getElem? (i := 143) rfl))) (by decide) (t := (.object "java/util/Map")) (t' := (.object "java/util/Set")) (by decide) (by decide)))
  have F_removedOutgoing_w10 := F_removedOutgoing_w9.other W10 (Or.inr (slot_ne (a0 := a0) (Or.inr (hw _ (List.mem_of_getElem? (i := 145) rfl))) (Or.inr (hw _ (List.mem_of_getElem? (i := 143) rfl))) (by decide) (t := (.object "java/util/Map")) (t' := (.object "java/util/Set")) (by decide) (by decide)))
  have F_removedIncoming_w10 := F_removedIncoming_w9.other W10 (Or.inr (slot_ne (a0 := a0) (Or.inr (hw _ (List.mem_of_getElem? (i := 147) rfl))) (Or.inr (hw _ (List.mem_of_getElem? (i := 143) rfl))) (by decide) (t := (.object "java/util/Map")) (t' := (.object "java/util/Set")) (by decide) (by decide)))
  have F_markSerial_w10 := F_markSerial_w9.other W10 (Or.inr (slot_ne (a0 := a0) (Or.inr (hw _ (List.mem_of_getElem? (i := 149) rfl))) (Or.inr (hw _ (List.mem_of_getElem? (i := 143) rfl))) (by decide) (t := .long) (t' := (.object "java/util/Set")) (by decide) (by decide)))
  have A2_w10 := A2_w9.wr W10
  have A5_w10 := A5_w9.wr W10
  have A8_w10 := A8_w9.wr W10
  have K10 : Keep h0 h10 [o0] := (K9).wr W10 (Or.inl (List.mem_of_getElem? (i := 0) rfl))
  have N10 := Fr.snoc X10 N9 g_o0
  have Z10 : n0 ≤ h10.size := Nat.le_trans Z9 (Keep.of_wr W10).1
  have F10 : Fld Z h10 o0 "com/example/pushout_bench/pushoutbench/graph/Changes" "addedOrRemoved" "Ljava/util/Set;" (.ref b8) := F_addedOrRemoved_w9.same W10
  show OGo p e below s _ _ _ (T10.setTop (mkF m 37 #[.val (.ref o0), .val (.long q1), .second] []))
  refine OGo.st (fun _ k => XS.aloadN X10.here hx rfl (hb hby d11_37) rfl rfl k) ?_
  show OGo p e below s _ _ _ (T10.setTop (mkF m 38 #[.val (.ref o0), .val (.long q1), .second] [(.ref o0)]))
  obtain ⟨T11, h11, X11, e11, E11, A11, D11, U11, st11⟩ := newO X10 hx hZ hown (hw _ (List.mem_of_getElem? (i := 116) rfl)) (hw _ (List.mem_of_getElem? (i := 117) rfl)) (hw _ (List.mem_of_getElem? (i := 33) rfl)) e10 (g := (mkF m 38 #[.val (.ref o0), .val (.long q1), .second] [(.ref o0)])) rfl (hb hby d11_38) (by decide) (by decide)
  obtain ⟨b11, g11⟩ : ∃ z, z = h10.size := ⟨_, rfl⟩
  rw [← g11] at A11 D11 U11 st11
  refine OGo.st st11 ?_
  have E_o0_w11 := E_o0_w10.ext E11
  have ne_o0_b11 : o0 ≠ b11 := Nat.ne_of_lt (Nat.lt_of_lt_of_le E_o0_w10.lt (Nat.le_of_eq g11.symm))
  have F4_w11 := F4_w10.ext E11
  have F7_w11 := F7_w10.ext E11
  have F10_w11 := F10.ext E11
  have F_removedOutgoing_w11 := F_removedOutgoing_w10.ext E11
  have F_removedIncoming_w11 := F_removedIncoming_w10.ext E11
  have F_markSerial_w11 := F_markSerial_w10.ext E11
  have A2_w11 := A2_w10.ext E11
  have ne_b2_b11 : b2 ≠ b11 := Nat.ne_of_lt (Nat.lt_of_lt_of_le A2_w10.lt (Nat.le_of_eq g11.symm))
  have A5_w11 := A5_w10.ext E11
  have ne_b5_b11 : b5 ≠ b11 := Nat.ne_of_lt (Nat.lt_of_lt_of_le A5_w10.lt (Nat.le_of_eq g11.symm))
  have A8_w11 := A8_w10.ext E11
  have ne_b8_b11 : b8 ≠ b11 := Nat.ne_of_lt (Nat.lt_of_lt_of_le A8_w10.lt (Nat.le_of_eq g11.symm))
  have g_b11 : n0 ≤ b11 := Nat.le_trans Z10 (Nat.le_of_eq g11.symm)
  have sz_b11 : h0.size ≤ b11 := Nat.le_trans (K10).1 (Nat.le_of_eq g11.symm)
  have K11 : Keep h0 h11 [o0] := (K10).ext E11
  have Z11 : n0 ≤ h11.size := Nat.le_trans Z10 E11.1
  have F_loadFactor_b11 : Fld Z h11 b11 "java/util/HashMap" "loadFactor" "F" (.float 0) := D11 (Or.inr (hw _ (List.mem_of_getElem? (i := 120) rfl))) (ty := .float) (by decide)
  show OGo p e below s _ _ _ (T11.setTop (mkF m 41 #[.val (.ref o0), .val (.long q1), .second] [(.ref b11), (.ref o0)]))
  refine OGo.st (fun _ k => XS.dup X11.here hx rfl (hb hby d11_41) rfl rfl k) ?_
  show OGo p e below s _ _ _ (T11.setTop (mkF m 42 #[.val (.ref o0), .val (.long q1), .second] [(.ref b11), (.ref b11), (.ref o0)]))
  obtain ⟨_, _, ⟨T12, L12, k12, n12⟩, -, X12, ⟨Lc12, hQ12, l12, y12, z12⟩, st12⟩ := X11.specialBack hx (y := (⟨"java/util/HashMap", "<init>", "()V"⟩ : MethodName)) rfl hown (mvT hZ (hw _ (List.mem_of_getElem? (i := 118) rfl))) (mvT hZ (hw _ (List.mem_of_getElem? (i := 30) rfl))) (mvT hZ (hw _ (List.mem_of_getElem? (i := 34) rfl))) (by decide) (backOf (W := 2) (rm5H l Z a0 hw [] b11 h11 n0 Z11 A11 F_loadFactor_b11 g_b11) hZ (hw _ (List.mem_of_getElem? (i := 34) rfl)) (hw _ (List.mem_of_getElem? (i := 33) rfl)) (by decide) (by decide)) (g := (mkF m 42 #[.val (.ref o0), .val (.long q1), .second] [(.ref b11), (.ref b11), (.ref o0)])) rfl (by rw [hml]; rfl) (Steps.refl _) (a := b11) (argsL := []) (rest := [(.ref b11), (.ref o0)]) (lenOf pd_11_0 rfl) rfl (by show 2 * 0 + _ ≤ _; exact Nat.le_of_eq rfl) (hb hby d11_42) (fun _ _ => ⟨rfl, e11, (by decide : 5 + 0 ≤ _), (by decide : 37 + 0 ≤ _)⟩)
  dsimp only [Pt.U, Pt.locs, Pt.cells, Pt.slots] at X12 l12 y12 z12 st12 hQ12
  subst l12 y12 z12
  obtain ⟨rfl, N12q, Kc12⟩ := hQ12
  have E_o0_w12 := E_o0_w11.keep Kc12
  have F4_w12 := F4_w11.keep Kc12 (ninS ne_o0_b11 nin0)
  have F7_w12 := F7_w11.keep Kc12 (ninS ne_o0_b11 nin0)
  have F10_w12 := F10_w11.keep Kc12 (ninS ne_o0_b11 nin0)
  have F_removedOutgoing_w12 := F_removedOutgoing_w11.keep Kc12 (ninS ne_o0_b11 nin0)
  have F_removedIncoming_w12 := F_removedIncoming_w11.keep Kc12 (ninS ne_o0_b11 nin0)
  have F_markSerial_w12 := F_markSerial_w11.keep Kc12 (ninS ne_o0_b11 nin0)
  have A2_w12 := A2_w11.keep Kc12
  have A5_w12 := A5_w11.keep Kc12
  have A8_w12 := A8_w11.keep Kc12
  have A11_w12 := A11.keep Kc12
  have K12 : Keep h0 T12.heap [o0] := (K11).trans Kc12 (allS (Or.inr sz_b11) all0)
  have Z12 : n0 ≤ T12.heap.size := Nat.le_trans Z11 Kc12.1
  have N12 := Fr.app N10 N12q
  refine OGo.st (fun _ k => st12.trans k) ?_
  show OGo p e below s _ _ _ (T12.setTop (mkF m 45 #[.val (.ref o0), .val (.long q1), .second] [(.ref b11), (.ref o0)]))
  obtain ⟨T13, h13, X13, e13, W13, st13⟩ := putF X12 hx hZ hown (host := "") (Or.inl (hw _ (List.mem_of_getElem? (i := 144) rfl))) Via.refl rfl F_removedOutgoing_w12 E_o0_w12 (Or.inr ⟨(hw _ (List.mem_of_getElem? (i := 145) rfl)), rfl, hnm⟩) (hw _ (List.mem_of_getElem? (i := 106) rfl)) (ty := (.object "java/util/Map")) (by decide) rfl rfl (g := (mkF m 45 #[.val (.ref o0), .val (.long q1), .second] [(.ref b11), (.ref o0)])) rfl rfl (hb hby d11_45)
  refine OGo.st st13 ?_
  have E_o0_w13 := E_o0_w12.wr W13
  have F4_w13 := F4_w12.other W13 (Or.inr (slot_ne (a0 := a0) (Or.inr (hw _ (List.mem_of_getElem? (i := 115) rfl))) (Or.inr (hw _ (List.mem_of_getElem? (i := 145) rfl))) (by decide) (t := (.object "java/util/Map")) (t' := (.object "java/util/Map")) (by decide) (by decide)))
  have F7_w13 := F7_w12.other W13 (Or.inr (slot_ne (a0 := a0) (Or.inr (hw _ (List.mem_of_getElem? (i := 122) rfl))) (Or.inr (hw _ (List.mem_of_getElem? (i := 145) rfl))) (by decide) (t := (.object "java/util/Map")) (t' := (.object "java/util/Map")) (by decide) (by decide)))
  have F10_w13 := F10_w12.other W13 (Or.inr (slot_ne (a0 := a0) (Or.inr (hw _ (List.mem_of_getElem? (i := 143) rfl))) (Or.inr (hw _ (List.mem_of_getElem? (i := 145) rfl))) (by decide) (t := (.object "java/util/Set")) (t' := (.object "java/util/Map")) (by decide) (by decide)))
  have F_removedIncoming_w13 := F_removedIncoming_w12.other W13 (Or.inr (slot_ne (a0 := a0) (Or.inr (hw _ (List.mem_of_getElem? (i := 147) rfl))) (Or.inr (hw _ (List.mem_of_getElem? (i := 145) rfl))) (by decide) (t := (.object "java/util/Map")) (t' := (.object "java/util/Map")) (by decide) (by decide)))
  have F_markSerial_w13 := F_markSerial_w12.other W13 (Or.inr (slot_ne (a0 := a0) (Or.inr (hw _ (List.mem_of_getElem? (i := 149) rfl))) (Or.inr (hw _ (List.mem_of_getElem? (i := 145) rfl))) (by decide) (t := .long) (t' := (.object "java/util/Map")) (by decide) (by decide)))
  have A2_w13 := A2_w12.wr W13
  have A5_w13 := A5_w12.wr W13
  have A8_w13 := A8_w12.wr W13
  have A11_w13 := A11_w12.wr W13
  have K13 : Keep h0 h13 [o0] := (K12).wr W13 (Or.inl (List.mem_of_getElem? (i := 0) rfl))
  have N13 := Fr.snoc X13 N12 g_o0
  have Z13 : n0 ≤ h13.size := Nat.le_trans Z12 (Keep.of_wr W13).1
  have F13 : Fld Z h13 o0 "com/example/pushout_bench/pushoutbench/graph/Changes" "removedOutgoing" "Ljava/util/Map;" (.ref b11) := F_removedOutgoing_w12.same W13
  show OGo p e below s _ _ _ (T13.setTop (mkF m 48 #[.val (.ref o0), .val (.long q1), .second] []))
  refine OGo.st (fun _ k => XS.aloadN X13.here hx rfl (hb hby d11_48) rfl rfl k) ?_
  show OGo p e below s _ _ _ (T13.setTop (mkF m 49 #[.val (.ref o0), .val (.long q1), .second] [(.ref o0)]))
  obtain ⟨T14, h14, X14, e14, E14, A14, D14, U14, st14⟩ := newO X13 hx hZ hown (hw _ (List.mem_of_getElem? (i := 116) rfl)) (hw _ (List.mem_of_getElem? (i := 117) rfl)) (hw _ (List.mem_of_getElem? (i := 33) rfl)) e13 (g := (mkF m 49 #[.val (.ref o0), .val (.long q1), .second] [(.ref o0)])) rfl (hb hby d11_49) (by decide) (by decide)
  obtain ⟨b14, g14⟩ : ∃ z, z = h13.size := ⟨_, rfl⟩
  rw [← g14] at A14 D14 U14 st14
  refine OGo.st st14 ?_
  have E_o0_w14 := E_o0_w13.ext E14
  have ne_o0_b14 : o0 ≠ b14 := Nat.ne_of_lt (Nat.lt_of_lt_of_le E_o0_w13.lt (Nat.le_of_eq g14.symm))
  have F4_w14 := F4_w13.ext E14
  have F7_w14 := F7_w13.ext E14
  have F10_w14 := F10_w13.ext E14
  have F13_w14 := F13.ext E14
  have F_removedIncoming_w14 := F_removedIncoming_w13.ext E14
  have F_markSerial_w14 := F_markSerial_w13.ext E14
  have A2_w14 := A2_w13.ext E14
  have ne_b2_b14 : b2 ≠ b14 := Nat.ne_of_lt (Nat.lt_of_lt_of_le A2_w13.lt (Nat.le_of_eq g14.symm))
  have A5_w14 := A5_w13.ext E14
  have ne_b5_b14 : b5 ≠ b14 := Nat.ne_of_lt (Nat.lt_of_lt_of_le A5_w13.lt (Nat.le_of_eq g14.symm))
  have A8_w14 := A8_w13.ext E14
  have ne_b8_b14 : b8 ≠ b14 := Nat.ne_of_lt (Nat.lt_of_lt_of_le A8_w13.lt (Nat.le_of_eq g14.symm))
  have A11_w14 := A11_w13.ext E14
  have ne_b11_b14 : b11 ≠ b14 := Nat.ne_of_lt (Nat.lt_of_lt_of_le A11_w13.lt (Nat.le_of_eq g14.symm))
  have g_b14 : n0 ≤ b14 := Nat.le_trans Z13 (Nat.le_of_eq g14.symm)
  have sz_b14 : h0.size ≤ b14 := Nat.le_trans (K13).1 (Nat.le_of_eq g14.symm)
  have K14 : Keep h0 h14 [o0] := (K13).ext E14
  have Z14 : n0 ≤ h14.size := Nat.le_trans Z13 E14.1
  have F_loadFactor_b14 : Fld Z h14 b14 "java/util/HashMap" "loadFactor" "F" (.float 0) := D14 (Or.inr (hw _ (List.mem_of_getElem? (i := 120) rfl))) (ty := .float) (by decide)
  show OGo p e below s _ _ _ (T14.setTop (mkF m 52 #[.val (.ref o0), .val (.long q1), .second] [(.ref b14), (.ref o0)]))
  refine OGo.st (fun _ k => XS.dup X14.here hx rfl (hb hby d11_52) rfl rfl k) ?_
  show OGo p e below s _ _ _ (T14.setTop (mkF m 53 #[.val (.ref o0), .val (.long q1), .second] [(.ref b14), (.ref b14), (.ref o0)]))
  obtain ⟨_, _, ⟨T15, L15, k15, n15⟩, -, X15, ⟨Lc15, hQ15, l15, y15, z15⟩, st15⟩ := X14.specialBack hx (y := (⟨"java/util/HashMap", "<init>", "()V"⟩ : MethodName)) rfl hown (mvT hZ (hw _ (List.mem_of_getElem? (i := 118) rfl))) (mvT hZ (hw _ (List.mem_of_getElem? (i := 30) rfl))) (mvT hZ (hw _ (List.mem_of_getElem? (i := 34) rfl))) (by decide) (backOf (W := 2) (rm5H l Z a0 hw [] b14 h14 n0 Z14 A14 F_loadFactor_b14 g_b14) hZ (hw _ (List.mem_of_getElem? (i := 34) rfl)) (hw _ (List.mem_of_getElem? (i := 33) rfl)) (by decide) (by decide)) (g := (mkF m 53 #[.val (.ref o0), .val (.long q1), .second] [(.ref b14), (.ref b14), (.ref o0)])) rfl (by rw [hml]; rfl) (Steps.refl _) (a := b14) (argsL := []) (rest := [(.ref b14), (.ref o0)]) (lenOf pd_11_0 rfl) rfl (by show 2 * 0 + _ ≤ _; exact Nat.le_of_eq rfl) (hb hby d11_53) (fun _ _ => ⟨rfl, e14, (by decide : 6 + 0 ≤ _), (by decide : 45 + 0 ≤ _)⟩)
  dsimp only [Pt.U, Pt.locs, Pt.cells, Pt.slots] at X15 l15 y15 z15 st15 hQ15
  subst l15 y15 z15
  obtain ⟨rfl, N15q, Kc15⟩ := hQ15
  have E_o0_w15 := E_o0_w14.keep Kc15
  have F4_w15 := F4_w14.keep Kc15 (ninS ne_o0_b14 nin0)
  have F7_w15 := F7_w14.keep Kc15 (ninS ne_o0_b14 nin0)
  have F10_w15 := F10_w14.keep Kc15 (ninS ne_o0_b14 nin0)
  have F13_w15 := F13_w14.keep Kc15 (ninS ne_o0_b14 nin0)
  have F_removedIncoming_w15 := F_removedIncoming_w14.keep Kc15 (ninS ne_o0_b14 nin0)
  have F_markSerial_w15 := F_markSerial_w14.keep Kc15 (ninS ne_o0_b14 nin0)
  have A2_w15 := A2_w14.keep Kc15
  have A5_w15 := A5_w14.keep Kc15
  have A8_w15 := A8_w14.keep Kc15
  have A11_w15 := A11_w14.keep Kc15
  have A14_w15 := A14.keep Kc15
  have K15 : Keep h0 T15.heap [o0] := (K14).trans Kc15 (allS (Or.inr sz_b14) all0)
  have Z15 : n0 ≤ T15.heap.size := Nat.le_trans Z14 Kc15.1
  have N15 := Fr.app N13 N15q
  refine OGo.st (fun _ k => st15.trans k) ?_
  show OGo p e below s _ _ _ (T15.setTop (mkF m 56 #[.val (.ref o0), .val (.long q1), .second] [(.ref b14), (.ref o0)]))
  obtain ⟨T16, h16, X16, e16, W16, st16⟩ := putF X15 hx hZ hown (host := "") (Or.inl (hw _ (List.mem_of_getElem? (i := 146) rfl))) Via.refl rfl F_removedIncoming_w15 E_o0_w15 (Or.inr ⟨(hw _ (List.mem_of_getElem? (i := 147) rfl)), rfl, hnm⟩) (hw _ (List.mem_of_getElem? (i := 106) rfl)) (ty := (.object "java/util/Map")) (by decide) rfl rfl (g := (mkF m 56 #[.val (.ref o0), .val (.long q1), .second] [(.ref b14), (.ref o0)])) rfl rfl (hb hby d11_56)
  refine OGo.st st16 ?_
  have E_o0_w16 := E_o0_w15.wr W16
  have F4_w16 := F4_w15.other W16 (Or.inr (slot_ne (a0 := a0) (Or.inr (hw _ (List.mem_of_getElem? (i := 115) rfl))) (Or.inr (hw _ (List.mem_of_getElem? (i := 147) rfl))) (by decide) (t := (.object "java/util/Map")) (t' := (.object "java/util/Map")) (by decide) (by decide)))
  have F7_w16 := F7_w15.other W16 (Or.inr (slot_ne (a0 := a0) (Or.inr (hw _ (List.mem_of_getElem? (i := 122) rfl))) (Or.inr (hw _ (List.mem_of_getElem? (i := 147) rfl))) (by decide) (t := (.object "java/util/Map")) (t' := (.object "java/util/Map")) (by decide) (by decide)))
  have F10_w16 := F10_w15.other W16 (Or.inr (slot_ne (a0 := a0) (Or.inr (hw _ (List.mem_of_getElem? (i := 143) rfl))) (Or.inr (hw _ (List.mem_of_getElem? (i := 147) rfl))) (by decide) (t := (.object "java/util/Set")) (t' := (.object "java/util/Map")) (by decide) (by decide)))
  have F13_w16 := F13_w15.other W16 (Or.inr (slot_ne (a0 := a0) (Or.inr (hw _ (List.mem_of_getElem? (i := 145) rfl))) (Or.inr (hw _ (List.mem_of_getElem? (i := 147) rfl))) (by decide) (t := (.object "java/util/Map")) (t' := (.object "java/util/Map")) (by decide) (by decide)))
  have F_markSerial_w16 := F_markSerial_w15.other W16 (Or.inr (slot_ne (a0 := a0) (Or.inr (hw _ (List.mem_of_getElem? (i := 149) rfl))) (Or.inr (hw _ (List.mem_of_getElem? (i := 147) rfl))) (by decide) (t := .long) (t' := (.object "java/util/Map")) (by decide) (by decide)))
  have A2_w16 := A2_w15.wr W16
  have A5_w16 := A5_w15.wr W16
  have A8_w16 := A8_w15.wr W16
  have A11_w16 := A11_w15.wr W16
  have A14_w16 := A14_w15.wr W16
  have K16 : Keep h0 h16 [o0] := (K15).wr W16 (Or.inl (List.mem_of_getElem? (i := 0) rfl))
  have N16 := Fr.snoc X16 N15 g_o0
  have Z16 : n0 ≤ h16.size := Nat.le_trans Z15 (Keep.of_wr W16).1
  have F16 : Fld Z h16 o0 "com/example/pushout_bench/pushoutbench/graph/Changes" "removedIncoming" "Ljava/util/Map;" (.ref b14) := F_removedIncoming_w15.same W16
  show OGo p e below s _ _ _ (T16.setTop (mkF m 59 #[.val (.ref o0), .val (.long q1), .second] []))
  refine OGo.st (fun _ k => XS.aloadN X16.here hx rfl (hb hby d11_59) rfl rfl k) ?_
  show OGo p e below s _ _ _ (T16.setTop (mkF m 60 #[.val (.ref o0), .val (.long q1), .second] [(.ref o0)]))
  refine OGo.st (fun _ k => XS.lloadN X16.here hx rfl (hb hby d11_60) rfl k) ?_
  show OGo p e below s _ _ _ (T16.setTop (mkF m 61 #[.val (.ref o0), .val (.long q1), .second] [(.long q1), (.ref o0)]))
  obtain ⟨T17, h17, X17, e17, W17, st17⟩ := putF X16 hx hZ hown (host := "") (Or.inl (hw _ (List.mem_of_getElem? (i := 148) rfl))) Via.refl e16 F_markSerial_w16 E_o0_w16 (Or.inr ⟨(hw _ (List.mem_of_getElem? (i := 149) rfl)), rfl, hnm⟩) (hw _ (List.mem_of_getElem? (i := 106) rfl)) (ty := .long) (by decide) rfl rfl (g := (mkF m 61 #[.val (.ref o0), .val (.long q1), .second] [(.long q1), (.ref o0)])) rfl rfl (hb hby d11_61)
  refine OGo.st st17 ?_
  have E_o0_w17 := E_o0_w16.wr W17
  have F4_w17 := F4_w16.other W17 (Or.inr (slot_ne (a0 := a0) (Or.inr (hw _ (List.mem_of_getElem? (i := 115) rfl))) (Or.inr (hw _ (List.mem_of_getElem? (i := 149) rfl))) (by decide) (t := (.object "java/util/Map")) (t' := .long) (by decide) (by decide)))
  have F7_w17 := F7_w16.other W17 (Or.inr (slot_ne (a0 := a0) (Or.inr (hw _ (List.mem_of_getElem? (i := 122) rfl))) (Or.inr (hw _ (List.mem_of_getElem? (i := 149) rfl))) (by decide) (t := (.object "java/util/Map")) (t' := .long) (by decide) (by decide)))
  have F10_w17 := F10_w16.other W17 (Or.inr (slot_ne (a0 := a0) (Or.inr (hw _ (List.mem_of_getElem? (i := 143) rfl))) (Or.inr (hw _ (List.mem_of_getElem? (i := 149) rfl))) (by decide) (t := (.object "java/util/Set")) (t' := .long) (by decide) (by decide)))
  have F13_w17 := F13_w16.other W17 (Or.inr (slot_ne (a0 := a0) (Or.inr (hw _ (List.mem_of_getElem? (i := 145) rfl))) (Or.inr (hw _ (List.mem_of_getElem? (i := 149) rfl))) (by decide) (t := (.object "java/util/Map")) (t' := .long) (by decide) (by decide)))
  have F16_w17 := F16.other W17 (Or.inr (slot_ne (a0 := a0) (Or.inr (hw _ (List.mem_of_getElem? (i := 147) rfl))) (Or.inr (hw _ (List.mem_of_getElem? (i := 149) rfl))) (by decide) (t := (.object "java/util/Map")) (t' := .long) (by decide) (by decide)))
  have A2_w17 := A2_w16.wr W17
  have A5_w17 := A5_w16.wr W17
  have A8_w17 := A8_w16.wr W17
  have A11_w17 := A11_w16.wr W17
  have A14_w17 := A14_w16.wr W17
  have K17 : Keep h0 h17 [o0] := (K16).wr W17 (Or.inl (List.mem_of_getElem? (i := 0) rfl))
  have N17 := Fr.snoc X17 N16 g_o0
  have Z17 : n0 ≤ h17.size := Nat.le_trans Z16 (Keep.of_wr W17).1
  have F17 : Fld Z h17 o0 "com/example/pushout_bench/pushoutbench/graph/Changes" "markSerial" "J" (.long q1) := F_markSerial_w16.same W17
  show OGo p e below s _ _ _ (T17.setTop (mkF m 64 #[.val (.ref o0), .val (.long q1), .second] []))
  exact oret0 X17 hx Bd.notSynchronized Bd.returns (hb hby d11_64) e17 ⟨rfl, N17, K17, F17⟩ (by decide) (by decide)
theorem d15_0 : decode prog_60_method_3_code 0 = .ok (.aload_n 0, 1) := by decide +kernel
theorem d15_1 : decode prog_60_method_3_code 1 = .ok (.getfield 23, 3) := by decide +kernel
theorem d15_4 : decode prog_60_method_3_code 4 = .ok (.lreturn, 1) := by decide +kernel
theorem pn_15 : plainName "com/example/pushout_bench/pushoutbench/graph/Element" = true := by first | (simp [plainName, overriddenIn]; done) | decide +kernel
theorem ef_15 (m : MethodId) (o0 : Addr) : entryFrame m #[(.ref o0)] 1 = mkF m 0 #[.val (.ref o0)] [] := by first | (simp [entryFrame, mkF, argsToLocals, Value.category]; done) | rfl
def f15 (u_s : Int64) : Int64 := u_s
def Q15 (Z : State) (o0 : Addr) (u_s : Int64) (h0 : Heap) (n0 : Nat) (v : Option Value) (h : Heap) (L : List Loc) : Prop := v = some (.long (f15 u_s)) ∧ Fr n0 L ∧ h = h0
set_option maxRecDepth 65536 in
set_option maxHeartbeats 40000000 in
theorem rm15 (l : Launch) (Z : State) (a0 : Array Value) (hw : ∀ d ∈ tables_1, d.before a0 Z = true) (ws : List Jvm.Cond) (o0 : Addr) (u_s : Int64) (h0 : Heap) (n0 : Nat) (Z0 : n0 ≤ h0.size) (F_serial_o0 : Fld Z h0 o0 "com/example/pushout_bench/pushoutbench/graph/Element" "serial" "J" (.long u_s)) :
    MetFree l (⟨"com/example/pushout_bench/pushoutbench/graph/Element", "serial", "()J"⟩ : MethodName) (head1 (Jvm.Cond.code (⟨"com/example/pushout_bench/pushoutbench/graph/Element", "serial", "()J"⟩ : MethodName) prog_60_method_3_code 1 (some .long) :: ws) ({ frames := 0, cells := 0, slots := 0, locals := 0 } : Room)) (fun a U => a = #[(.ref o0)] ∧ Z.Warmed39 U.vm ∧ U.heap = h0) (fun _ _ _ _ _ => True) (fun _ U o U' => ∃ v L, o = .returned v ∧ Q15 Z o0 u_s h0 n0 v U'.heap L ∧ FrameEnd U o U' L ({ frames := 0, cells := 0, slots := 0, locals := 0 } : Room).cells ({ frames := 0, cells := 0, slots := 0, locals := 0 } : Room).slots) := by
  refine MetFree.of_bodySF (plainFor_of_name pn_15) hisR ?_
  intro p e s m args below meth c s₁ Bd hml0 hP hK
  obtain ⟨rfl, hZ, hh⟩ := hP
  have hx := Bd.exec
  have hby := Bd.bytes
  have hml : c.maxLocals = 1 := hml0
  have hown : s.vm.findClass "com/example/pushout_bench/pushoutbench/graph/Element" = some m.cls := findClass_of_methodNamed Bd.named
  have hnm := (name_of_methodNamed Bd.named Bd.method).1
  have X0 : Stand p l e ({ frames := 0, cells := 0, slots := 0, locals := 0 } : Room) s m #[(.ref o0)] below meth c s₁ [] 0 0 := Stand.of_body Bd
  have e0 : s₁.heap = h0 := by rw [← hh, Bd.state]; rfl
  have N0 := Fr.nil n0
  show OGo p e below s (Q15 Z o0 u_s h0 n0) ({ frames := 0, cells := 0, slots := 0, locals := 0 } : Room).cells ({ frames := 0, cells := 0, slots := 0, locals := 0 } : Room).slots _
  refine OGo.st (fun _ k => castTop (ef_15 m o0) k) ?_
  show OGo p e below s _ _ _ (s₁.setTop (mkF m 0 #[.val (.ref o0)] []))
  refine OGo.st (fun _ k => XS.aloadN X0.here hx rfl (hb hby d15_0) rfl rfl k) ?_
  show OGo p e below s _ _ _ (s₁.setTop (mkF m 1 #[.val (.ref o0)] [(.ref o0)]))
  obtain ⟨T1, X1, e1, st1⟩ := getF X0 hx hZ hown (host := "") (Or.inl (hw _ (List.mem_of_getElem? (i := 160) rfl))) Via.refl e0 F_serial_o0 (g := (mkF m 1 #[.val (.ref o0)] [(.ref o0)])) rfl rfl (hb hby d15_1)
  refine OGo.st st1 ?_
  show OGo p e below s _ _ _ (T1.setTop (mkF m 4 #[.val (.ref o0)] [(.long u_s)]))
  exact oretJ X1 hx Bd.notSynchronized Bd.returns (hb hby d15_4) e1 ⟨(congrArg (fun z => some (Value.long z)) (show u_s = f15 u_s from Eq.symm (by unfold f15; exact rfl))), N0, rfl⟩ (by decide) (by decide)
theorem d14_0 : decode prog_57_method_4_code 0 = .ok (.aload_n 1, 1) := by decide +kernel
theorem d14_1 : decode prog_57_method_4_code 1 = .ok (.invokevirtual 88, 3) := by decide +kernel
theorem d14_4 : decode prog_57_method_4_code 4 = .ok (.aload_n 0, 1) := by decide +kernel
theorem d14_5 : decode prog_57_method_4_code 5 = .ok (.getfield 35, 3) := by decide +kernel
theorem d14_8 : decode prog_57_method_4_code 8 = .ok (.lcmp, 1) := by decide +kernel
theorem d14_9 : decode prog_57_method_4_code 9 = .ok (.ifCond .lt 7, 3) := by decide +kernel
theorem d14_12 : decode prog_57_method_4_code 12 = .ok (.iconst 1, 1) := by decide +kernel
theorem d14_13 : decode prog_57_method_4_code 13 = .ok (.goto 4, 3) := by decide +kernel
theorem d14_16 : decode prog_57_method_4_code 16 = .ok (.iconst 0, 1) := by decide +kernel
theorem d14_17 : decode prog_57_method_4_code 17 = .ok (.ireturn, 1) := by decide +kernel
theorem pn_14 : plainName "com/example/pushout_bench/pushoutbench/graph/Changes" = true := by first | (simp [plainName, overriddenIn]; done) | decide +kernel
theorem pd_14Node_0 : parseMethodDescriptor "()J" = some ⟨[], some .long⟩ := by decide +kernel
theorem ef_14Node (m : MethodId) (o0 : Addr) (o1 : Addr) : entryFrame m #[(.ref o0), (.ref o1)] 2 = mkF m 0 #[.val (.ref o0), .val (.ref o1)] [] := by first | (simp [entryFrame, mkF, argsToLocals, Value.category]; done) | rfl
def f14Node (u_m : Int64) (u_s : Int64) : Int32 := (if (f15 u_s) < u_m then (0 : Int32) else (1 : Int32))
def Q14Node (Z : State) (o0 : Addr) (o1 : Addr) (u_m : Int64) (u_s : Int64) (h0 : Heap) (n0 : Nat) (v : Option Value) (h : Heap) (L : List Loc) : Prop := v = some (.int (f14Node u_m u_s)) ∧ Fr n0 L ∧ h = h0
set_option maxRecDepth 65536 in
set_option maxHeartbeats 40000000 in
theorem rm14Node (l : Launch) (Z : State) (a0 : Array Value) (hw : ∀ d ∈ tables_1, d.before a0 Z = true) (ws : List Jvm.Cond) (o0 : Addr) (o1 : Addr) (u_m : Int64) (u_s : Int64) (h0 : Heap) (n0 : Nat) (Z0 : n0 ≤ h0.size) (F_mark : Fld Z h0 o0 "com/example/pushout_bench/pushoutbench/graph/Changes" "markSerial" "J" (.long u_m)) (E_o1 : Exa Z h0 o1 "com/example/pushout_bench/pushoutbench/graph/Node") (F_serial_o1 : Fld Z h0 o1 "com/example/pushout_bench/pushoutbench/graph/Element" "serial" "J" (.long u_s)) :
    MetFree l (⟨"com/example/pushout_bench/pushoutbench/graph/Changes", "isNew", "(Lcom/example/pushout_bench/pushoutbench/graph/Element;)Z"⟩ : MethodName) (head1 (Jvm.Cond.code (⟨"com/example/pushout_bench/pushoutbench/graph/Changes", "isNew", "(Lcom/example/pushout_bench/pushoutbench/graph/Element;)Z"⟩ : MethodName) prog_57_method_4_code 2 (some .boolean) :: ws) ({ frames := 1, cells := 0, slots := 0, locals := 12 } : Room)) (fun a U => a = #[(.ref o0), (.ref o1)] ∧ Z.Warmed39 U.vm ∧ U.heap = h0) (fun _ _ _ _ _ => True) (fun _ U o U' => ∃ v L, o = .returned v ∧ Q14Node Z o0 o1 u_m u_s h0 n0 v U'.heap L ∧ FrameEnd U o U' L ({ frames := 1, cells := 0, slots := 0, locals := 12 } : Room).cells ({ frames := 1, cells := 0, slots := 0, locals := 12 } : Room).slots) := by
  refine MetFree.of_bodySF (plainFor_of_name pn_14) hisR ?_
  intro p e s m args below meth c s₁ Bd hml0 hP hK
  obtain ⟨rfl, hZ, hh⟩ := hP
  have hx := Bd.exec
  have hby := Bd.bytes
  have hml : c.maxLocals = 2 := hml0
  have hown : s.vm.findClass "com/example/pushout_bench/pushoutbench/graph/Changes" = some m.cls := findClass_of_methodNamed Bd.named
  have hnm := (name_of_methodNamed Bd.named Bd.method).1
  have X0 : Stand p l e ({ frames := 1, cells := 0, slots := 0, locals := 12 } : Room) s m #[(.ref o0), (.ref o1)] below meth c s₁ [] 0 0 := Stand.of_body Bd
  have e0 : s₁.heap = h0 := by rw [← hh, Bd.state]; rfl
  have N0 := Fr.nil n0
  show OGo p e below s (Q14Node Z o0 o1 u_m u_s h0 n0) ({ frames := 1, cells := 0, slots := 0, locals := 12 } : Room).cells ({ frames := 1, cells := 0, slots := 0, locals := 12 } : Room).slots _
  refine OGo.st (fun _ k => castTop (ef_14Node m o0 o1) k) ?_
  show OGo p e below s _ _ _ (s₁.setTop (mkF m 0 #[.val (.ref o0), .val (.ref o1)] []))
  refine OGo.st (fun _ k => XS.aloadN X0.here hx rfl (hb hby d14_0) rfl rfl k) ?_
  show OGo p e below s _ _ _ (s₁.setTop (mkF m 1 #[.val (.ref o0), .val (.ref o1)] [(.ref o1)]))
  obtain ⟨cq1, kq1, q1a, q1b, q1c⟩ := isOf hZ e0 E_o1
  obtain ⟨_, _, ⟨T1, L1, k1, n1⟩, -, X1, ⟨Lc1, hQ1, l1, y1, z1⟩, st1⟩ := X0.virtualBack hx (y := (⟨"com/example/pushout_bench/pushoutbench/graph/Element", "serial", "()J"⟩ : MethodName)) (z := (⟨"com/example/pushout_bench/pushoutbench/graph/Element", "serial", "()J"⟩ : MethodName)) hown (mvT hZ (hw _ (List.mem_of_getElem? (i := 155) rfl))) (mvT hZ (hw _ (List.mem_of_getElem? (i := 156) rfl))) (notFace_of_selects (args := #[]) (mvT hZ (hw _ (List.mem_of_getElem? (i := 158) rfl)))) (mvT hZ (hw _ (List.mem_of_getElem? (i := 158) rfl))) (mvT hZ (hw _ (List.mem_of_getElem? (i := 157) rfl))) (by decide) (backOf (W := 0) (rm15 l Z a0 hw [] o1 u_s h0 n0 Z0 F_serial_o1) hZ (hw _ (List.mem_of_getElem? (i := 159) rfl)) (hw _ (List.mem_of_getElem? (i := 18) rfl)) (by decide) (by decide)) q1a q1c (g := (mkF m 1 #[.val (.ref o0), .val (.ref o1)] [(.ref o1)])) rfl (by rw [hml]; rfl) (Steps.refl _) (argsL := []) (rest := []) (lenOf pd_14Node_0 rfl) rfl (by show 2 * 0 + _ ≤ _; exact Nat.le_of_eq rfl) (hb hby d14_1) (fun _ _ => ⟨rfl, e0, (by decide : 0 + 0 ≤ _), (by decide : 0 + 0 ≤ _)⟩)
  dsimp only [Pt.U, Pt.locs, Pt.cells, Pt.slots] at X1 l1 y1 z1 st1 hQ1
  subst l1 y1 z1
  obtain ⟨rfl, N1q, e1⟩ := hQ1
  have N1 := Fr.app N0 N1q
  refine OGo.st (fun _ k => st1.trans k) ?_
  show OGo p e below s _ _ _ (T1.setTop (mkF m 4 #[.val (.ref o0), .val (.ref o1)] [(.long (f15 u_s))]))
  refine OGo.st (fun _ k => XS.aloadN X1.here hx rfl (hb hby d14_4) rfl rfl k) ?_
  show OGo p e below s _ _ _ (T1.setTop (mkF m 5 #[.val (.ref o0), .val (.ref o1)] [(.ref o0), (.long (f15 u_s))]))
  obtain ⟨T2, X2, e2, st2⟩ := getF X1 hx hZ hown (host := "") (Or.inl (hw _ (List.mem_of_getElem? (i := 148) rfl))) Via.refl e1 F_mark (g := (mkF m 5 #[.val (.ref o0), .val (.ref o1)] [(.ref o0), (.long (f15 u_s))])) rfl rfl (hb hby d14_5)
  refine OGo.st st2 ?_
  show OGo p e below s _ _ _ (T2.setTop (mkF m 8 #[.val (.ref o0), .val (.ref o1)] [(.long u_m), (.long (f15 u_s))]))
  refine OGo.st (fun _ k => XS.lcmp X2.here hx rfl (hb hby d14_8) rfl k) ?_
  show OGo p e below s _ _ _ (T2.setTop (mkF m 9 #[.val (.ref o0), .val (.ref o1)] [(.int (lcmpW (f15 u_s) u_m))]))
  by_cases hc9 : (f15 u_s) < u_m
  · refine OGo.st (fun _ k => XS.ifYes X2.here hx rfl (pc0 := 9) (pc' := 16) rfl (hb hby d14_9) rfl ((if0 _ _).trans (tlt ((olc_lt _ _).mpr hc9)).1) (by decide) (by decide) k) ?_
    show OGo p e below s _ _ _ (T2.setTop (mkF m 16 #[.val (.ref o0), .val (.ref o1)] []))
    refine OGo.st (fun _ k => XS.iconst X2.here hx rfl (hb hby d14_16) k) ?_
    show OGo p e below s _ _ _ (T2.setTop (mkF m 17 #[.val (.ref o0), .val (.ref o1)] [(.int (0 : Int32))]))
    exact oretN X2 hx Bd.notSynchronized (t := .boolean) Bd.returns (by simp) (hb hby d14_17) (z' := (0 : Int32)) (by decide) e2 ⟨(congrArg (fun z => some (Value.int z)) (show (0 : Int32) = f14Node u_m u_s from Eq.symm (by unfold f14Node; exact if_pos hc9))), N1, rfl⟩ (by decide) (by decide)
  · refine OGo.st (fun _ k => XS.ifNo X2.here hx rfl (hb hby d14_9) rfl ((if0 _ _).trans (flt (fun z => hc9 ((olc_lt _ _).mp z))).1) k) ?_
    show OGo p e below s _ _ _ (T2.setTop (mkF m 12 #[.val (.ref o0), .val (.ref o1)] []))
    refine OGo.st (fun _ k => XS.iconst X2.here hx rfl (hb hby d14_12) k) ?_
    show OGo p e below s _ _ _ (T2.setTop (mkF m 13 #[.val (.ref o0), .val (.ref o1)] [(.int (1 : Int32))]))
    refine OGo.st (fun _ k => XS.goto X2.here hx rfl (pc0 := 13) (pc' := 17) rfl (hb hby d14_13) (by decide) (by decide) k) ?_
    show OGo p e below s _ _ _ (T2.setTop (mkF m 17 #[.val (.ref o0), .val (.ref o1)] [(.int (1 : Int32))]))
    exact oretN X2 hx Bd.notSynchronized (t := .boolean) Bd.returns (by simp) (hb hby d14_17) (z' := (1 : Int32)) (by decide) e2 ⟨(congrArg (fun z => some (Value.int z)) (show (1 : Int32) = f14Node u_m u_s from Eq.symm (by unfold f14Node; exact if_neg hc9))), N1, rfl⟩ (by decide) (by decide)
theorem pd_14Edge_0 : parseMethodDescriptor "()J" = some ⟨[], some .long⟩ := by decide +kernel
theorem ef_14Edge (m : MethodId) (o0 : Addr) (o1 : Addr) : entryFrame m #[(.ref o0), (.ref o1)] 2 = mkF m 0 #[.val (.ref o0), .val (.ref o1)] [] := by first | (simp [entryFrame, mkF, argsToLocals, Value.category]; done) | rfl
def f14Edge (u_m : Int64) (u_s : Int64) : Int32 := (if (f15 u_s) < u_m then (0 : Int32) else (1 : Int32))
def Q14Edge (Z : State) (o0 : Addr) (o1 : Addr) (u_m : Int64) (u_s : Int64) (h0 : Heap) (n0 : Nat) (v : Option Value) (h : Heap) (L : List Loc) : Prop := v = some (.int (f14Edge u_m u_s)) ∧ Fr n0 L ∧ h = h0
set_option maxRecDepth 65536 in
set_option maxHeartbeats 40000000 in
theorem rm14Edge (l : Launch) (Z : State) (a0 : Array Value) (hw : ∀ d ∈ tables_1, d.before a0 Z = true) (ws : List Jvm.Cond) (o0 : Addr) (o1 : Addr) (u_m : Int64) (u_s : Int64) (h0 : Heap) (n0 : Nat) (Z0 : n0 ≤ h0.size) (F_mark : Fld Z h0 o0 "com/example/pushout_bench/pushoutbench/graph/Changes" "markSerial" "J" (.long u_m)) (E_o1 : Exa Z h0 o1 "com/example/pushout_bench/pushoutbench/graph/Edge") (F_serial_o1 : Fld Z h0 o1 "com/example/pushout_bench/pushoutbench/graph/Element" "serial" "J" (.long u_s)) :
    MetFree l (⟨"com/example/pushout_bench/pushoutbench/graph/Changes", "isNew", "(Lcom/example/pushout_bench/pushoutbench/graph/Element;)Z"⟩ : MethodName) (head1 (Jvm.Cond.code (⟨"com/example/pushout_bench/pushoutbench/graph/Changes", "isNew", "(Lcom/example/pushout_bench/pushoutbench/graph/Element;)Z"⟩ : MethodName) prog_57_method_4_code 2 (some .boolean) :: ws) ({ frames := 1, cells := 0, slots := 0, locals := 12 } : Room)) (fun a U => a = #[(.ref o0), (.ref o1)] ∧ Z.Warmed39 U.vm ∧ U.heap = h0) (fun _ _ _ _ _ => True) (fun _ U o U' => ∃ v L, o = .returned v ∧ Q14Edge Z o0 o1 u_m u_s h0 n0 v U'.heap L ∧ FrameEnd U o U' L ({ frames := 1, cells := 0, slots := 0, locals := 12 } : Room).cells ({ frames := 1, cells := 0, slots := 0, locals := 12 } : Room).slots) := by
  refine MetFree.of_bodySF (plainFor_of_name pn_14) hisR ?_
  intro p e s m args below meth c s₁ Bd hml0 hP hK
  obtain ⟨rfl, hZ, hh⟩ := hP
  have hx := Bd.exec
  have hby := Bd.bytes
  have hml : c.maxLocals = 2 := hml0
  have hown : s.vm.findClass "com/example/pushout_bench/pushoutbench/graph/Changes" = some m.cls := findClass_of_methodNamed Bd.named
  have hnm := (name_of_methodNamed Bd.named Bd.method).1
  have X0 : Stand p l e ({ frames := 1, cells := 0, slots := 0, locals := 12 } : Room) s m #[(.ref o0), (.ref o1)] below meth c s₁ [] 0 0 := Stand.of_body Bd
  have e0 : s₁.heap = h0 := by rw [← hh, Bd.state]; rfl
  have N0 := Fr.nil n0
  show OGo p e below s (Q14Edge Z o0 o1 u_m u_s h0 n0) ({ frames := 1, cells := 0, slots := 0, locals := 12 } : Room).cells ({ frames := 1, cells := 0, slots := 0, locals := 12 } : Room).slots _
  refine OGo.st (fun _ k => castTop (ef_14Edge m o0 o1) k) ?_
  show OGo p e below s _ _ _ (s₁.setTop (mkF m 0 #[.val (.ref o0), .val (.ref o1)] []))
  refine OGo.st (fun _ k => XS.aloadN X0.here hx rfl (hb hby d14_0) rfl rfl k) ?_
  show OGo p e below s _ _ _ (s₁.setTop (mkF m 1 #[.val (.ref o0), .val (.ref o1)] [(.ref o1)]))
  obtain ⟨cq1, kq1, q1a, q1b, q1c⟩ := isOf hZ e0 E_o1
  obtain ⟨_, _, ⟨T1, L1, k1, n1⟩, -, X1, ⟨Lc1, hQ1, l1, y1, z1⟩, st1⟩ := X0.virtualBack hx (y := (⟨"com/example/pushout_bench/pushoutbench/graph/Element", "serial", "()J"⟩ : MethodName)) (z := (⟨"com/example/pushout_bench/pushoutbench/graph/Element", "serial", "()J"⟩ : MethodName)) hown (mvT hZ (hw _ (List.mem_of_getElem? (i := 155) rfl))) (mvT hZ (hw _ (List.mem_of_getElem? (i := 156) rfl))) (notFace_of_selects (args := #[]) (mvT hZ (hw _ (List.mem_of_getElem? (i := 161) rfl)))) (mvT hZ (hw _ (List.mem_of_getElem? (i := 161) rfl))) (mvT hZ (hw _ (List.mem_of_getElem? (i := 157) rfl))) (by decide) (backOf (W := 0) (rm15 l Z a0 hw [] o1 u_s h0 n0 Z0 F_serial_o1) hZ (hw _ (List.mem_of_getElem? (i := 159) rfl)) (hw _ (List.mem_of_getElem? (i := 18) rfl)) (by decide) (by decide)) q1a q1c (g := (mkF m 1 #[.val (.ref o0), .val (.ref o1)] [(.ref o1)])) rfl (by rw [hml]; rfl) (Steps.refl _) (argsL := []) (rest := []) (lenOf pd_14Edge_0 rfl) rfl (by show 2 * 0 + _ ≤ _; exact Nat.le_of_eq rfl) (hb hby d14_1) (fun _ _ => ⟨rfl, e0, (by decide : 0 + 0 ≤ _), (by decide : 0 + 0 ≤ _)⟩)
  dsimp only [Pt.U, Pt.locs, Pt.cells, Pt.slots] at X1 l1 y1 z1 st1 hQ1
  subst l1 y1 z1
  obtain ⟨rfl, N1q, e1⟩ := hQ1
  have N1 := Fr.app N0 N1q
  refine OGo.st (fun _ k => st1.trans k) ?_
  show OGo p e below s _ _ _ (T1.setTop (mkF m 4 #[.val (.ref o0), .val (.ref o1)] [(.long (f15 u_s))]))
  refine OGo.st (fun _ k => XS.aloadN X1.here hx rfl (hb hby d14_4) rfl rfl k) ?_
  show OGo p e below s _ _ _ (T1.setTop (mkF m 5 #[.val (.ref o0), .val (.ref o1)] [(.ref o0), (.long (f15 u_s))]))
  obtain ⟨T2, X2, e2, st2⟩ := getF X1 hx hZ hown (host := "") (Or.inl (hw _ (List.mem_of_getElem? (i := 148) rfl))) Via.refl e1 F_mark (g := (mkF m 5 #[.val (.ref o0), .val (.ref o1)] [(.ref o0), (.long (f15 u_s))])) rfl rfl (hb hby d14_5)
  refine OGo.st st2 ?_
  show OGo p e below s _ _ _ (T2.setTop (mkF m 8 #[.val (.ref o0), .val (.ref o1)] [(.long u_m), (.long (f15 u_s))]))
  refine OGo.st (fun _ k => XS.lcmp X2.here hx rfl (hb hby d14_8) rfl k) ?_
  show OGo p e below s _ _ _ (T2.setTop (mkF m 9 #[.val (.ref o0), .val (.ref o1)] [(.int (lcmpW (f15 u_s) u_m))]))
  by_cases hc9 : (f15 u_s) < u_m
  · refine OGo.st (fun _ k => XS.ifYes X2.here hx rfl (pc0 := 9) (pc' := 16) rfl (hb hby d14_9) rfl ((if0 _ _).trans (tlt ((olc_lt _ _).mpr hc9)).1) (by decide) (by decide) k) ?_
    show OGo p e below s _ _ _ (T2.setTop (mkF m 16 #[.val (.ref o0), .val (.ref o1)] []))
    refine OGo.st (fun _ k => XS.iconst X2.here hx rfl (hb hby d14_16) k) ?_
    show OGo p e below s _ _ _ (T2.setTop (mkF m 17 #[.val (.ref o0), .val (.ref o1)] [(.int (0 : Int32))]))
    exact oretN X2 hx Bd.notSynchronized (t := .boolean) Bd.returns (by simp) (hb hby d14_17) (z' := (0 : Int32)) (by decide) e2 ⟨(congrArg (fun z => some (Value.int z)) (show (0 : Int32) = f14Edge u_m u_s from Eq.symm (by unfold f14Edge; exact if_pos hc9))), N1, rfl⟩ (by decide) (by decide)
  · refine OGo.st (fun _ k => XS.ifNo X2.here hx rfl (hb hby d14_9) rfl ((if0 _ _).trans (flt (fun z => hc9 ((olc_lt _ _).mp z))).1) k) ?_
    show OGo p e below s _ _ _ (T2.setTop (mkF m 12 #[.val (.ref o0), .val (.ref o1)] []))
    refine OGo.st (fun _ k => XS.iconst X2.here hx rfl (hb hby d14_12) k) ?_
    show OGo p e below s _ _ _ (T2.setTop (mkF m 13 #[.val (.ref o0), .val (.ref o1)] [(.int (1 : Int32))]))
    refine OGo.st (fun _ k => XS.goto X2.here hx rfl (pc0 := 13) (pc' := 17) rfl (hb hby d14_13) (by decide) (by decide) k) ?_
    show OGo p e below s _ _ _ (T2.setTop (mkF m 17 #[.val (.ref o0), .val (.ref o1)] [(.int (1 : Int32))]))
    exact oretN X2 hx Bd.notSynchronized (t := .boolean) Bd.returns (by simp) (hb hby d14_17) (z' := (1 : Int32)) (by decide) e2 ⟨(congrArg (fun z => some (Value.int z)) (show (1 : Int32) = f14Edge u_m u_s from Eq.symm (by unfold f14Edge; exact if_neg hc9))), N1, rfl⟩ (by decide) (by decide)
theorem own_wS {Z : State} {a0 : Array Value} (hw : ∀ d ∈ tables_1, d.before a0 Z = true) : ∀ a ∈ Bundle.stringAtoms, a.before a0 Z = true := by
  intro d hd
  simp only [Bundle.stringAtoms, List.mem_cons, List.not_mem_nil, or_false] at hd
  rcases hd with rfl | rfl | rfl | rfl | rfl | rfl | rfl
  · exact (hw _ (List.mem_of_getElem? (i := 4) rfl))
  · exact (hw _ (List.mem_of_getElem? (i := 5) rfl))
  · exact (hw _ (List.mem_of_getElem? (i := 6) rfl))
  · exact (hw _ (List.mem_of_getElem? (i := 7) rfl))
  · exact (hw _ (List.mem_of_getElem? (i := 8) rfl))
  · exact (hw _ (List.mem_of_getElem? (i := 9) rfl))
  · exact (hw _ (List.mem_of_getElem? (i := 10) rfl))
theorem pn_0 : plainName "com/example/pushout_bench/pushoutbench/graph/ChangesIsNewPinLaw" = true := by first | (simp [plainName, overriddenIn]; done) | decide +kernel
theorem pd_0_0 : parseMethodDescriptor "(Ljava/lang/String;Ljava/lang/String;)V" = some ⟨[(.object "java/lang/String"), (.object "java/lang/String")], none⟩ := by decide +kernel
theorem pd_0_1 : parseMethodDescriptor "(Ljava/lang/String;Ljava/lang/String;Lcom/example/pushout_bench/pushoutbench/graph/Node;Lcom/example/pushout_bench/pushoutbench/graph/Node;)V" = some ⟨[(.object "java/lang/String"), (.object "java/lang/String"), (.object "com/example/pushout_bench/pushoutbench/graph/Node"), (.object "com/example/pushout_bench/pushoutbench/graph/Node")], none⟩ := by decide +kernel
theorem pd_0_2 : parseMethodDescriptor "(J)V" = some ⟨[.long], none⟩ := by decide +kernel
theorem pd_0_3 : parseMethodDescriptor "(Lcom/example/pushout_bench/pushoutbench/graph/Element;)Z" = some ⟨[(.object "com/example/pushout_bench/pushoutbench/graph/Element")], some .boolean⟩ := by decide +kernel
theorem ef_0 (m : MethodId) (q0 : Int64) (q1 : Int64) (q2 : Int64) : entryFrame m #[(.long q0), (.long q1), (.long q2)] maxLocals = mkF m 0 #[.val (.long q0), .second, .val (.long q1), .second, .val (.long q2), .second, .unset, .unset, .unset, .unset, .unset, .unset, .unset] [] := by first | (simp [entryFrame, mkF, argsToLocals, Value.category, maxLocals]; done) | rfl
def f0_127 (q0 : Int64) (q1 : Int64) (q2 : Int64) (w_D : Addr) (j90_0 : Int32) (j98_0 : Int32) (j119_0 : Int32) (j127_0 : Int32) : Int32 := (if j98_0 = (0 : Int32) then (0 : Int32) else (if j127_0 = (0 : Int32) then (0 : Int32) else (if (f14Node q0 q0) = (0 : Int32) then (0 : Int32) else (1 : Int32))))
def f0_119 (q0 : Int64) (q1 : Int64) (q2 : Int64) (w_D : Addr) (j90_0 : Int32) (j98_0 : Int32) (j119_0 : Int32) : Int32 := (if (f14Edge q0 q2) = j119_0 then (f0_127 q0 q1 q2 w_D j90_0 j98_0 j119_0 (1 : Int32)) else (f0_127 q0 q1 q2 w_D j90_0 j98_0 j119_0 (0 : Int32)))
def f0_98 (q0 : Int64) (q1 : Int64) (q2 : Int64) (w_D : Addr) (j90_0 : Int32) (j98_0 : Int32) : Int32 := (if q2 < q0 then (f0_119 q0 q1 q2 w_D j90_0 j98_0 (0 : Int32)) else (f0_119 q0 q1 q2 w_D j90_0 j98_0 (1 : Int32)))
def f0_90 (q0 : Int64) (q1 : Int64) (q2 : Int64) (w_D : Addr) (j90_0 : Int32) : Int32 := (if (f14Node q0 q1) = j90_0 then (f0_98 q0 q1 q2 w_D j90_0 (1 : Int32)) else (f0_98 q0 q1 q2 w_D j90_0 (0 : Int32)))
def f0 (q0 : Int64) (q1 : Int64) (q2 : Int64) (w_D : Addr) : Int32 := (if q1 < q0 then (f0_90 q0 q1 q2 w_D (0 : Int32)) else (f0_90 q0 q1 q2 w_D (1 : Int32)))
def Q0 (Z : State) (q0 : Int64) (q1 : Int64) (q2 : Int64) (w_D : Addr) (h0 : Heap) (n0 : Nat) (v : Option Value) (h : Heap) (L : List Loc) : Prop := v = some (.int (f0 q0 q1 q2 w_D)) ∧ Fr n0 L
set_option maxRecDepth 65536 in
set_option maxHeartbeats 40000000 in
theorem rm0 (l : Launch) (Z : State) (a0 : Array Value) (hw : ∀ d ∈ tables_1, d.before a0 Z = true) (ws : List Jvm.Cond) (q0 : Int64) (q1 : Int64) (q2 : Int64) (w_D : Addr) (h0 : Heap) (n0 : Nat) (Z0 : n0 ≤ h0.size) (S_D : Sta Z h0 "java/util/ArrayList" "DEFAULTCAPACITY_EMPTY_ELEMENTDATA" "[Ljava/lang/Object;" (.ref w_D)) :
    MetFree l x (head1 (Jvm.Cond.code x code maxLocals ret :: ws) room_1) (fun a U => a = #[(.long q0), (.long q1), (.long q2)] ∧ Z.Warmed39 U.vm ∧ U.heap = h0) (fun _ _ _ _ _ => True) (fun _ U o U' => ∃ v L, o = .returned v ∧ Q0 Z q0 q1 q2 w_D h0 n0 v U'.heap L ∧ ReturnedEndW U o U' L room_1.cells room_1.slots) := by
  refine MetFree.of_bodySF (plainFor_of_name pn_0) hisR ?_
  intro p e s m args below meth c s₁ Bd hml0 hP hK
  obtain ⟨rfl, hZ, hh⟩ := hP
  have hx := Bd.exec
  have hby := Bd.bytes
  have hml : c.maxLocals = 13 := hml0
  have hown : s.vm.findClass "com/example/pushout_bench/pushoutbench/graph/ChangesIsNewPinLaw" = some m.cls := findClass_of_methodNamed Bd.named
  have hnm := (name_of_methodNamed Bd.named Bd.method).1
  have X0 : Stand p l e room_1 (s.setVm s.vm) m #[(.long q0), (.long q1), (.long q2)] below meth c s₁ [] 0 0 := Stand.of_body Bd
  have e0 : s₁.heap = h0 := by rw [← hh, Bd.state]; rfl
  have N0 := Fr.nil n0
  have hZ : Z.Warmed39 (s.setVm s.vm).vm := hZ
  have hown : (s.setVm s.vm).vm.findClass "com/example/pushout_bench/pushoutbench/graph/ChangesIsNewPinLaw" = some m.cls := hown
  have hS0 : s.Since s.vm s.heap.size := (State.WarmedH.refl s).since _
  have hk0 : s.heap.size ≤ h0.size := by rw [← hh]; exact Nat.le_refl _
  have wS : ∀ a ∈ Bundle.stringAtoms, a.before a0 Z = true := own_wS hw
  show OGoW p e below s (Q0 Z q0 q1 q2 w_D h0 n0) room_1.cells room_1.slots _
  refine OGoW.st (fun _ k => castTop (ef_0 m q0 q1 q2) k) ?_
  show OGoW p e below s _ _ _ (s₁.setTop (mkF m 0 #[.val (.long q0), .second, .val (.long q1), .second, .val (.long q2), .second, .unset, .unset, .unset, .unset, .unset, .unset, .unset] []))
  obtain ⟨T1, h1, X1, e1, E1, A1, D1, U1, st1⟩ := newO X0 hx hZ hown (hw _ (List.mem_of_getElem? (i := 0) rfl)) (hw _ (List.mem_of_getElem? (i := 1) rfl)) (hw _ (List.mem_of_getElem? (i := 2) rfl)) e0 (g := (mkF m 0 #[.val (.long q0), .second, .val (.long q1), .second, .val (.long q2), .second, .unset, .unset, .unset, .unset, .unset, .unset, .unset] [])) rfl (hb hby at_0) (by decide) (by decide)
  obtain ⟨b1, g1⟩ : ∃ z, z = h0.size := ⟨_, rfl⟩
  rw [← g1] at A1 D1 U1 st1
  refine OGoW.st st1 ?_
  have S_D_w1 := S_D.ext E1
  have g_b1 : n0 ≤ b1 := Nat.le_trans Z0 (Nat.le_of_eq g1.symm)
  have sz_b1 : h0.size ≤ b1 := Nat.le_trans (Keep.refl h0 []).1 (Nat.le_of_eq g1.symm)
  have K1 : Keep h0 h1 [] := (Keep.refl h0 _).ext E1
  have Z1 : n0 ≤ h1.size := Nat.le_trans Z0 E1.1
  have hk1 := Nat.le_trans hk0 E1.1
  have F_attributes_b1 : Fld Z h1 b1 "com/example/pushout_bench/pushoutbench/graph/Element" "attributes" "Ljava/util/Map;" .null := D1 (Or.inr (hw _ (List.mem_of_getElem? (i := 50) rfl))) (ty := (.object "java/util/Map")) (by decide)
  have F_id_b1 : Fld Z h1 b1 "com/example/pushout_bench/pushoutbench/graph/Element" "id" "Ljava/lang/String;" .null := D1 (Or.inr (hw _ (List.mem_of_getElem? (i := 52) rfl))) (ty := (.object "java/lang/String")) (by decide)
  have F_type_b1 : Fld Z h1 b1 "com/example/pushout_bench/pushoutbench/graph/Element" "type" "Ljava/lang/String;" .null := D1 (Or.inr (hw _ (List.mem_of_getElem? (i := 54) rfl))) (ty := (.object "java/lang/String")) (by decide)
  have F_outgoing_b1 : Fld Z h1 b1 "com/example/pushout_bench/pushoutbench/graph/Node" "outgoing" "Ljava/util/List;" .null := D1 (Or.inr (hw _ (List.mem_of_getElem? (i := 80) rfl))) (ty := (.object "java/util/List")) (by decide)
  have F_incoming_b1 : Fld Z h1 b1 "com/example/pushout_bench/pushoutbench/graph/Node" "incoming" "Ljava/util/List;" .null := D1 (Or.inr (hw _ (List.mem_of_getElem? (i := 82) rfl))) (ty := (.object "java/util/List")) (by decide)
  have F_serial_b1 : Fld Z h1 b1 "com/example/pushout_bench/pushoutbench/graph/Element" "serial" "J" (.long (0 : Int64)) := D1 (Or.inl (hw _ (List.mem_of_getElem? (i := 85) rfl))) (ty := .long) (by decide)
  show OGoW p e below s _ _ _ (T1.setTop (mkF m 3 #[.val (.long q0), .second, .val (.long q1), .second, .val (.long q2), .second, .unset, .unset, .unset, .unset, .unset, .unset, .unset] [(.ref b1)]))
  refine OGoW.st (fun _ k => XS.dup X1.here hx rfl (hb hby at_3) rfl rfl k) ?_
  show OGoW p e below s _ _ _ (T1.setTop (mkF m 4 #[.val (.long q0), .second, .val (.long q1), .second, .val (.long q2), .second, .unset, .unset, .unset, .unset, .unset, .unset, .unset] [(.ref b1), (.ref b1)]))
  obtain ⟨b2, T2, h2, kk2, X2, e2, E2, hS2, hk2, hZ, hown, st2⟩ := ldcS X1 hx hZ hown (hw _ (List.mem_of_getElem? (i := 3) rfl)) wS e1 hS0 hk1 (g := (mkF m 4 #[.val (.long q0), .second, .val (.long q1), .second, .val (.long q2), .second, .unset, .unset, .unset, .unset, .unset, .unset, .unset] [(.ref b1), (.ref b1)])) rfl (hb hby at_4) (n := 4) (by decide) (by decide) (by decide) (by decide)
  refine OGoW.st st2 ?_
  have S_D_w2 := S_D_w1.ext E2
  have A1_w2 := A1.ext E2
  have F_attributes_b1_w2 := F_attributes_b1.ext E2
  have F_id_b1_w2 := F_id_b1.ext E2
  have F_type_b1_w2 := F_type_b1.ext E2
  have F_outgoing_b1_w2 := F_outgoing_b1.ext E2
  have F_incoming_b1_w2 := F_incoming_b1.ext E2
  have F_serial_b1_w2 := F_serial_b1.ext E2
  have K2 : Keep h0 h2 [] := (K1).ext E2
  have Z2 : n0 ≤ h2.size := Nat.le_trans Z1 E2.1
  show OGoW p e below s _ _ _ (T2.setTop (mkF m 6 #[.val (.long q0), .second, .val (.long q1), .second, .val (.long q2), .second, .unset, .unset, .unset, .unset, .unset, .unset, .unset] [(.ref b2), (.ref b1), (.ref b1)]))
  obtain ⟨b3, T3, h3, kk3, X3, e3, E3, hS3, hk3, hZ, hown, st3⟩ := ldcS X2 hx hZ hown (hw _ (List.mem_of_getElem? (i := 11) rfl)) wS e2 hS2 hk2 (g := (mkF m 6 #[.val (.long q0), .second, .val (.long q1), .second, .val (.long q2), .second, .unset, .unset, .unset, .unset, .unset, .unset, .unset] [(.ref b2), (.ref b1), (.ref b1)])) rfl (hb hby at_6) (n := 4) (by decide) (by decide) (by decide) (by decide)
  refine OGoW.st st3 ?_
  have S_D_w3 := S_D_w2.ext E3
  have A1_w3 := A1_w2.ext E3
  have F_attributes_b1_w3 := F_attributes_b1_w2.ext E3
  have F_id_b1_w3 := F_id_b1_w2.ext E3
  have F_type_b1_w3 := F_type_b1_w2.ext E3
  have F_outgoing_b1_w3 := F_outgoing_b1_w2.ext E3
  have F_incoming_b1_w3 := F_incoming_b1_w2.ext E3
  have F_serial_b1_w3 := F_serial_b1_w2.ext E3
  have K3 : Keep h0 h3 [] := (K2).ext E3
  have Z3 : n0 ≤ h3.size := Nat.le_trans Z2 E3.1
  show OGoW p e below s _ _ _ (T3.setTop (mkF m 8 #[.val (.long q0), .second, .val (.long q1), .second, .val (.long q2), .second, .unset, .unset, .unset, .unset, .unset, .unset, .unset] [(.ref b3), (.ref b2), (.ref b1), (.ref b1)]))
  obtain ⟨_, _, ⟨T4, L4, k4, n4⟩, -, X4, ⟨Lc4, hQ4, l4, y4, z4⟩, st4⟩ := X3.specialBack hx (y := (⟨"com/example/pushout_bench/pushoutbench/graph/Node", "<init>", "(Ljava/lang/String;Ljava/lang/String;)V"⟩ : MethodName)) rfl hown (mvT hZ (hw _ (List.mem_of_getElem? (i := 12) rfl))) (mvT hZ (hw _ (List.mem_of_getElem? (i := 13) rfl))) (mvT hZ (hw _ (List.mem_of_getElem? (i := 14) rfl))) (by decide) (backOf (W := 1) (rm1 l Z a0 hw [] b1 b2 b3 w_D h3 n0 Z3 A1_w3 F_attributes_b1_w3 F_id_b1_w3 F_type_b1_w3 F_outgoing_b1_w3 F_incoming_b1_w3 F_serial_b1_w3 S_D_w3 g_b1) hZ (hw _ (List.mem_of_getElem? (i := 14) rfl)) (hw _ (List.mem_of_getElem? (i := 2) rfl)) (by decide) (by decide)) (g := (mkF m 8 #[.val (.long q0), .second, .val (.long q1), .second, .val (.long q2), .second, .unset, .unset, .unset, .unset, .unset, .unset, .unset] [(.ref b3), (.ref b2), (.ref b1), (.ref b1)])) rfl (by rw [hml]; rfl) (Steps.refl _) (a := b1) (argsL := [(.ref b2), (.ref b3)]) (rest := [(.ref b1)]) (lenOf pd_0_0 rfl) rfl (by show 2 * 0 + _ ≤ _; exact Nat.le_of_eq rfl) (hb hby at_8) (fun _ _ => ⟨rfl, e3, (by decide : 5 + 3 ≤ _), (by decide : 22 + 18 ≤ _)⟩)
  dsimp only [Pt.U, Pt.locs, Pt.cells, Pt.slots] at X4 l4 y4 z4 st4 hQ4
  subst l4 y4 z4
  obtain ⟨rfl, N4q, Kc4, G4_0⟩ := hQ4
  have S_D_w4 := osta_keep S_D_w3 Kc4 (osta_exa A1_w3 (fun _ _ _ _ => nin0))
  have A1_w4 := A1_w3.keep Kc4
  have K4 : Keep h0 T4.heap [] := (K3).trans Kc4 (allS (Or.inr sz_b1) all0)
  have Z4 : n0 ≤ T4.heap.size := Nat.le_trans Z3 Kc4.1
  have hk4 := Nat.le_trans hk3 Kc4.1
  have N4 := Fr.app N0 N4q
  refine OGoW.st (fun _ k => st4.trans k) ?_
  show OGoW p e below s _ _ _ (T4.setTop (mkF m 11 #[.val (.long q0), .second, .val (.long q1), .second, .val (.long q2), .second, .unset, .unset, .unset, .unset, .unset, .unset, .unset] [(.ref b1)]))
  refine OGoW.st (fun _ k => XS.astore X4.here hx rfl (hb hby at_11) rfl rfl (l' := #[.val (.long q0), .second, .val (.long q1), .second, .val (.long q2), .second, .val (.ref b1), .unset, .unset, .unset, .unset, .unset, .unset]) rfl k) ?_
  show OGoW p e below s _ _ _ (T4.setTop (mkF m 13 #[.val (.long q0), .second, .val (.long q1), .second, .val (.long q2), .second, .val (.ref b1), .unset, .unset, .unset, .unset, .unset, .unset] []))
  refine OGoW.st (fun _ k => XS.aload X4.here hx rfl (hb hby at_13) rfl rfl k) ?_
  show OGoW p e below s _ _ _ (T4.setTop (mkF m 15 #[.val (.long q0), .second, .val (.long q1), .second, .val (.long q2), .second, .val (.ref b1), .unset, .unset, .unset, .unset, .unset, .unset] [(.ref b1)]))
  refine OGoW.st (fun _ k => XS.lloadN X4.here hx rfl (hb hby at_15) rfl k) ?_
  show OGoW p e below s _ _ _ (T4.setTop (mkF m 16 #[.val (.long q0), .second, .val (.long q1), .second, .val (.long q2), .second, .val (.ref b1), .unset, .unset, .unset, .unset, .unset, .unset] [(.long q1), (.ref b1)]))
  obtain ⟨T5, h5, X5, e5, W5, st5⟩ := putF X4 hx hZ hown (host := "") (Or.inl (hw _ (List.mem_of_getElem? (i := 83) rfl))) (Via.of (hw _ (List.mem_of_getElem? (i := 84) rfl))) rfl G4_0 A1_w4 (Or.inl (hw _ (List.mem_of_getElem? (i := 85) rfl))) (hw _ (List.mem_of_getElem? (i := 1) rfl)) (ty := .long) (by decide) rfl rfl (g := (mkF m 16 #[.val (.long q0), .second, .val (.long q1), .second, .val (.long q2), .second, .val (.ref b1), .unset, .unset, .unset, .unset, .unset, .unset] [(.long q1), (.ref b1)])) rfl rfl (hb hby at_16)
  refine OGoW.st st5 ?_
  have S_D_w5 := S_D_w4.wr W5
  have A1_w5 := A1_w4.wr W5
  have K5 : Keep h0 h5 [] := (K4).wr W5 (Or.inr sz_b1)
  have N5 := Fr.snoc X5 N4 g_b1
  have Z5 : n0 ≤ h5.size := Nat.le_trans Z4 (Keep.of_wr W5).1
  have hk5 := Nat.le_trans hk4 (Keep.of_wr W5).1
  have F5 : Fld Z h5 b1 "com/example/pushout_bench/pushoutbench/graph/Element" "serial" "J" (.long q1) := G4_0.same W5
  show OGoW p e below s _ _ _ (T5.setTop (mkF m 19 #[.val (.long q0), .second, .val (.long q1), .second, .val (.long q2), .second, .val (.ref b1), .unset, .unset, .unset, .unset, .unset, .unset] []))
  obtain ⟨T6, h6, X6, e6, E6, A6, D6, U6, st6⟩ := newO X5 hx hZ hown (hw _ (List.mem_of_getElem? (i := 86) rfl)) (hw _ (List.mem_of_getElem? (i := 87) rfl)) (hw _ (List.mem_of_getElem? (i := 88) rfl)) e5 (g := (mkF m 19 #[.val (.long q0), .second, .val (.long q1), .second, .val (.long q2), .second, .val (.ref b1), .unset, .unset, .unset, .unset, .unset, .unset] [])) rfl (hb hby at_19) (by decide) (by decide)
  obtain ⟨b6, g6⟩ : ∃ z, z = h5.size := ⟨_, rfl⟩
  rw [← g6] at A6 D6 U6 st6
  refine OGoW.st st6 ?_
  have S_D_w6 := S_D_w5.ext E6
  have A1_w6 := A1_w5.ext E6
  have ne_b1_b6 : b1 ≠ b6 := Nat.ne_of_lt (Nat.lt_of_lt_of_le A1_w5.lt (Nat.le_of_eq g6.symm))
  have F5_w6 := F5.ext E6
  have g_b6 : n0 ≤ b6 := Nat.le_trans Z5 (Nat.le_of_eq g6.symm)
  have sz_b6 : h0.size ≤ b6 := Nat.le_trans (K5).1 (Nat.le_of_eq g6.symm)
  have K6 : Keep h0 h6 [] := (K5).ext E6
  have Z6 : n0 ≤ h6.size := Nat.le_trans Z5 E6.1
  have hk6 := Nat.le_trans hk5 E6.1
  have F_attributes_b6 : Fld Z h6 b6 "com/example/pushout_bench/pushoutbench/graph/Element" "attributes" "Ljava/util/Map;" .null := D6 (Or.inr (hw _ (List.mem_of_getElem? (i := 94) rfl))) (ty := (.object "java/util/Map")) (by decide)
  have F_id_b6 : Fld Z h6 b6 "com/example/pushout_bench/pushoutbench/graph/Element" "id" "Ljava/lang/String;" .null := D6 (Or.inr (hw _ (List.mem_of_getElem? (i := 95) rfl))) (ty := (.object "java/lang/String")) (by decide)
  have F_type_b6 : Fld Z h6 b6 "com/example/pushout_bench/pushoutbench/graph/Element" "type" "Ljava/lang/String;" .null := D6 (Or.inr (hw _ (List.mem_of_getElem? (i := 96) rfl))) (ty := (.object "java/lang/String")) (by decide)
  have F_source_b6 : Fld Z h6 b6 "com/example/pushout_bench/pushoutbench/graph/Edge" "source" "Lcom/example/pushout_bench/pushoutbench/graph/Node;" .null := D6 (Or.inr (hw _ (List.mem_of_getElem? (i := 98) rfl))) (ty := (.object "com/example/pushout_bench/pushoutbench/graph/Node")) (by decide)
  have F_target_b6 : Fld Z h6 b6 "com/example/pushout_bench/pushoutbench/graph/Edge" "target" "Lcom/example/pushout_bench/pushoutbench/graph/Node;" .null := D6 (Or.inr (hw _ (List.mem_of_getElem? (i := 100) rfl))) (ty := (.object "com/example/pushout_bench/pushoutbench/graph/Node")) (by decide)
  have F_serial_b6 : Fld Z h6 b6 "com/example/pushout_bench/pushoutbench/graph/Element" "serial" "J" (.long (0 : Int64)) := D6 (Or.inl (hw _ (List.mem_of_getElem? (i := 103) rfl))) (ty := .long) (by decide)
  show OGoW p e below s _ _ _ (T6.setTop (mkF m 22 #[.val (.long q0), .second, .val (.long q1), .second, .val (.long q2), .second, .val (.ref b1), .unset, .unset, .unset, .unset, .unset, .unset] [(.ref b6)]))
  refine OGoW.st (fun _ k => XS.dup X6.here hx rfl (hb hby at_22) rfl rfl k) ?_
  show OGoW p e below s _ _ _ (T6.setTop (mkF m 23 #[.val (.long q0), .second, .val (.long q1), .second, .val (.long q2), .second, .val (.ref b1), .unset, .unset, .unset, .unset, .unset, .unset] [(.ref b6), (.ref b6)]))
  obtain ⟨b7, T7, h7, kk7, X7, e7, E7, hS7, hk7, hZ, hown, st7⟩ := ldcS X6 hx hZ hown (hw _ (List.mem_of_getElem? (i := 89) rfl)) wS e6 hS3 hk6 (g := (mkF m 23 #[.val (.long q0), .second, .val (.long q1), .second, .val (.long q2), .second, .val (.ref b1), .unset, .unset, .unset, .unset, .unset, .unset] [(.ref b6), (.ref b6)])) rfl (hb hby at_23) (n := 4) (by decide) (by decide) (by decide) (by decide)
  refine OGoW.st st7 ?_
  have S_D_w7 := S_D_w6.ext E7
  have A1_w7 := A1_w6.ext E7
  have F5_w7 := F5_w6.ext E7
  have A6_w7 := A6.ext E7
  have F_attributes_b6_w7 := F_attributes_b6.ext E7
  have F_id_b6_w7 := F_id_b6.ext E7
  have F_type_b6_w7 := F_type_b6.ext E7
  have F_source_b6_w7 := F_source_b6.ext E7
  have F_target_b6_w7 := F_target_b6.ext E7
  have F_serial_b6_w7 := F_serial_b6.ext E7
  have K7 : Keep h0 h7 [] := (K6).ext E7
  have Z7 : n0 ≤ h7.size := Nat.le_trans Z6 E7.1
  show OGoW p e below s _ _ _ (T7.setTop (mkF m 25 #[.val (.long q0), .second, .val (.long q1), .second, .val (.long q2), .second, .val (.ref b1), .unset, .unset, .unset, .unset, .unset, .unset] [(.ref b7), (.ref b6), (.ref b6)]))
  obtain ⟨b8, T8, h8, kk8, X8, e8, E8, hS8, hk8, hZ, hown, st8⟩ := ldcS X7 hx hZ hown (hw _ (List.mem_of_getElem? (i := 11) rfl)) wS e7 hS7 hk7 (g := (mkF m 25 #[.val (.long q0), .second, .val (.long q1), .second, .val (.long q2), .second, .val (.ref b1), .unset, .unset, .unset, .unset, .unset, .unset] [(.ref b7), (.ref b6), (.ref b6)])) rfl (hb hby at_25) (n := 4) (by decide) (by decide) (by decide) (by decide)
  refine OGoW.st st8 ?_
  have S_D_w8 := S_D_w7.ext E8
  have A1_w8 := A1_w7.ext E8
  have F5_w8 := F5_w7.ext E8
  have A6_w8 := A6_w7.ext E8
  have F_attributes_b6_w8 := F_attributes_b6_w7.ext E8
  have F_id_b6_w8 := F_id_b6_w7.ext E8
  have F_type_b6_w8 := F_type_b6_w7.ext E8
  have F_source_b6_w8 := F_source_b6_w7.ext E8
  have F_target_b6_w8 := F_target_b6_w7.ext E8
  have F_serial_b6_w8 := F_serial_b6_w7.ext E8
  have K8 : Keep h0 h8 [] := (K7).ext E8
  have Z8 : n0 ≤ h8.size := Nat.le_trans Z7 E8.1
  show OGoW p e below s _ _ _ (T8.setTop (mkF m 27 #[.val (.long q0), .second, .val (.long q1), .second, .val (.long q2), .second, .val (.ref b1), .unset, .unset, .unset, .unset, .unset, .unset] [(.ref b8), (.ref b7), (.ref b6), (.ref b6)]))
  refine OGoW.st (fun _ k => XS.aload X8.here hx rfl (hb hby at_27) rfl rfl k) ?_
  show OGoW p e below s _ _ _ (T8.setTop (mkF m 29 #[.val (.long q0), .second, .val (.long q1), .second, .val (.long q2), .second, .val (.ref b1), .unset, .unset, .unset, .unset, .unset, .unset] [(.ref b1), (.ref b8), (.ref b7), (.ref b6), (.ref b6)]))
  refine OGoW.st (fun _ k => XS.aload X8.here hx rfl (hb hby at_29) rfl rfl k) ?_
  show OGoW p e below s _ _ _ (T8.setTop (mkF m 31 #[.val (.long q0), .second, .val (.long q1), .second, .val (.long q2), .second, .val (.ref b1), .unset, .unset, .unset, .unset, .unset, .unset] [(.ref b1), (.ref b1), (.ref b8), (.ref b7), (.ref b6), (.ref b6)]))
  obtain ⟨_, _, ⟨T9, L9, k9, n9⟩, -, X9, ⟨Lc9, hQ9, l9, y9, z9⟩, st9⟩ := X8.specialBack hx (y := (⟨"com/example/pushout_bench/pushoutbench/graph/Edge", "<init>", "(Ljava/lang/String;Ljava/lang/String;Lcom/example/pushout_bench/pushoutbench/graph/Node;Lcom/example/pushout_bench/pushoutbench/graph/Node;)V"⟩ : MethodName)) rfl hown (mvT hZ (hw _ (List.mem_of_getElem? (i := 90) rfl))) (mvT hZ (hw _ (List.mem_of_getElem? (i := 91) rfl))) (mvT hZ (hw _ (List.mem_of_getElem? (i := 92) rfl))) (by decide) (backOf (W := 1) (rm10 l Z a0 hw [] b6 b7 b8 b1 b1 h8 n0 Z8 A6_w8 F_attributes_b6_w8 F_id_b6_w8 F_type_b6_w8 F_source_b6_w8 F_target_b6_w8 F_serial_b6_w8 g_b6) hZ (hw _ (List.mem_of_getElem? (i := 92) rfl)) (hw _ (List.mem_of_getElem? (i := 88) rfl)) (by decide) (by decide)) (g := (mkF m 31 #[.val (.long q0), .second, .val (.long q1), .second, .val (.long q2), .second, .val (.ref b1), .unset, .unset, .unset, .unset, .unset, .unset] [(.ref b1), (.ref b1), (.ref b8), (.ref b7), (.ref b6), (.ref b6)])) rfl (by rw [hml]; rfl) (Steps.refl _) (a := b6) (argsL := [(.ref b7), (.ref b8), (.ref b1), (.ref b1)]) (rest := [(.ref b6)]) (lenOf pd_0_1 rfl) rfl (by show 2 * 0 + _ ≤ _; exact Nat.le_of_eq rfl) (hb hby at_31) (fun _ _ => ⟨rfl, e8, (by decide : 13 + 1 ≤ _), (by decide : 62 + 12 ≤ _)⟩)
  dsimp only [Pt.U, Pt.locs, Pt.cells, Pt.slots] at X9 l9 y9 z9 st9 hQ9
  subst l9 y9 z9
  obtain ⟨rfl, N9q, Kc9, G9_0⟩ := hQ9
  have S_D_w9 := osta_keep S_D_w8 Kc9 (osta_exa A6_w8 (fun _ _ _ _ => nin0))
  have A1_w9 := A1_w8.keep Kc9
  have F5_w9 := F5_w8.keep Kc9 (ninS ne_b1_b6 nin0)
  have A6_w9 := A6_w8.keep Kc9
  have K9 : Keep h0 T9.heap [] := (K8).trans Kc9 (allS (Or.inr sz_b6) all0)
  have Z9 : n0 ≤ T9.heap.size := Nat.le_trans Z8 Kc9.1
  have hk9 := Nat.le_trans hk8 Kc9.1
  have N9 := Fr.app N5 N9q
  refine OGoW.st (fun _ k => st9.trans k) ?_
  show OGoW p e below s _ _ _ (T9.setTop (mkF m 34 #[.val (.long q0), .second, .val (.long q1), .second, .val (.long q2), .second, .val (.ref b1), .unset, .unset, .unset, .unset, .unset, .unset] [(.ref b6)]))
  refine OGoW.st (fun _ k => XS.astore X9.here hx rfl (hb hby at_34) rfl rfl (l' := #[.val (.long q0), .second, .val (.long q1), .second, .val (.long q2), .second, .val (.ref b1), .val (.ref b6), .unset, .unset, .unset, .unset, .unset]) rfl k) ?_
  show OGoW p e below s _ _ _ (T9.setTop (mkF m 36 #[.val (.long q0), .second, .val (.long q1), .second, .val (.long q2), .second, .val (.ref b1), .val (.ref b6), .unset, .unset, .unset, .unset, .unset] []))
  refine OGoW.st (fun _ k => XS.aload X9.here hx rfl (hb hby at_36) rfl rfl k) ?_
  show OGoW p e below s _ _ _ (T9.setTop (mkF m 38 #[.val (.long q0), .second, .val (.long q1), .second, .val (.long q2), .second, .val (.ref b1), .val (.ref b6), .unset, .unset, .unset, .unset, .unset] [(.ref b6)]))
  refine OGoW.st (fun _ k => XS.lload X9.here hx rfl (hb hby at_38) rfl k) ?_
  show OGoW p e below s _ _ _ (T9.setTop (mkF m 40 #[.val (.long q0), .second, .val (.long q1), .second, .val (.long q2), .second, .val (.ref b1), .val (.ref b6), .unset, .unset, .unset, .unset, .unset] [(.long q2), (.ref b6)]))
  obtain ⟨T10, h10, X10, e10, W10, st10⟩ := putF X9 hx hZ hown (host := "") (Or.inl (hw _ (List.mem_of_getElem? (i := 101) rfl))) (Via.of (hw _ (List.mem_of_getElem? (i := 102) rfl))) rfl G9_0 A6_w9 (Or.inl (hw _ (List.mem_of_getElem? (i := 103) rfl))) (hw _ (List.mem_of_getElem? (i := 87) rfl)) (ty := .long) (by decide) rfl rfl (g := (mkF m 40 #[.val (.long q0), .second, .val (.long q1), .second, .val (.long q2), .second, .val (.ref b1), .val (.ref b6), .unset, .unset, .unset, .unset, .unset] [(.long q2), (.ref b6)])) rfl rfl (hb hby at_40)
  refine OGoW.st st10 ?_
  have S_D_w10 := S_D_w9.wr W10
  have A1_w10 := A1_w9.wr W10
  have F5_w10 := F5_w9.other W10 (Or.inl ne_b1_b6)
  have A6_w10 := A6_w9.wr W10
  have K10 : Keep h0 h10 [] := (K9).wr W10 (Or.inr sz_b6)
  have N10 := Fr.snoc X10 N9 g_b6
  have Z10 : n0 ≤ h10.size := Nat.le_trans Z9 (Keep.of_wr W10).1
  have hk10 := Nat.le_trans hk9 (Keep.of_wr W10).1
  have F10 : Fld Z h10 b6 "com/example/pushout_bench/pushoutbench/graph/Element" "serial" "J" (.long q2) := G9_0.same W10
  show OGoW p e below s _ _ _ (T10.setTop (mkF m 43 #[.val (.long q0), .second, .val (.long q1), .second, .val (.long q2), .second, .val (.ref b1), .val (.ref b6), .unset, .unset, .unset, .unset, .unset] []))
  obtain ⟨T11, h11, X11, e11, E11, A11, D11, U11, st11⟩ := newO X10 hx hZ hown (hw _ (List.mem_of_getElem? (i := 0) rfl)) (hw _ (List.mem_of_getElem? (i := 1) rfl)) (hw _ (List.mem_of_getElem? (i := 2) rfl)) e10 (g := (mkF m 43 #[.val (.long q0), .second, .val (.long q1), .second, .val (.long q2), .second, .val (.ref b1), .val (.ref b6), .unset, .unset, .unset, .unset, .unset] [])) rfl (hb hby at_43) (by decide) (by decide)
  obtain ⟨b11, g11⟩ : ∃ z, z = h10.size := ⟨_, rfl⟩
  rw [← g11] at A11 D11 U11 st11
  refine OGoW.st st11 ?_
  have S_D_w11 := S_D_w10.ext E11
  have A1_w11 := A1_w10.ext E11
  have ne_b1_b11 : b1 ≠ b11 := Nat.ne_of_lt (Nat.lt_of_lt_of_le A1_w10.lt (Nat.le_of_eq g11.symm))
  have F5_w11 := F5_w10.ext E11
  have A6_w11 := A6_w10.ext E11
  have ne_b6_b11 : b6 ≠ b11 := Nat.ne_of_lt (Nat.lt_of_lt_of_le A6_w10.lt (Nat.le_of_eq g11.symm))
  have F10_w11 := F10.ext E11
  have g_b11 : n0 ≤ b11 := Nat.le_trans Z10 (Nat.le_of_eq g11.symm)
  have sz_b11 : h0.size ≤ b11 := Nat.le_trans (K10).1 (Nat.le_of_eq g11.symm)
  have K11 : Keep h0 h11 [] := (K10).ext E11
  have Z11 : n0 ≤ h11.size := Nat.le_trans Z10 E11.1
  have hk11 := Nat.le_trans hk10 E11.1
  have F_attributes_b11 : Fld Z h11 b11 "com/example/pushout_bench/pushoutbench/graph/Element" "attributes" "Ljava/util/Map;" .null := D11 (Or.inr (hw _ (List.mem_of_getElem? (i := 50) rfl))) (ty := (.object "java/util/Map")) (by decide)
  have F_id_b11 : Fld Z h11 b11 "com/example/pushout_bench/pushoutbench/graph/Element" "id" "Ljava/lang/String;" .null := D11 (Or.inr (hw _ (List.mem_of_getElem? (i := 52) rfl))) (ty := (.object "java/lang/String")) (by decide)
  have F_type_b11 : Fld Z h11 b11 "com/example/pushout_bench/pushoutbench/graph/Element" "type" "Ljava/lang/String;" .null := D11 (Or.inr (hw _ (List.mem_of_getElem? (i := 54) rfl))) (ty := (.object "java/lang/String")) (by decide)
  have F_outgoing_b11 : Fld Z h11 b11 "com/example/pushout_bench/pushoutbench/graph/Node" "outgoing" "Ljava/util/List;" .null := D11 (Or.inr (hw _ (List.mem_of_getElem? (i := 80) rfl))) (ty := (.object "java/util/List")) (by decide)
  have F_incoming_b11 : Fld Z h11 b11 "com/example/pushout_bench/pushoutbench/graph/Node" "incoming" "Ljava/util/List;" .null := D11 (Or.inr (hw _ (List.mem_of_getElem? (i := 82) rfl))) (ty := (.object "java/util/List")) (by decide)
  have F_serial_b11 : Fld Z h11 b11 "com/example/pushout_bench/pushoutbench/graph/Element" "serial" "J" (.long (0 : Int64)) := D11 (Or.inl (hw _ (List.mem_of_getElem? (i := 85) rfl))) (ty := .long) (by decide)
  show OGoW p e below s _ _ _ (T11.setTop (mkF m 46 #[.val (.long q0), .second, .val (.long q1), .second, .val (.long q2), .second, .val (.ref b1), .val (.ref b6), .unset, .unset, .unset, .unset, .unset] [(.ref b11)]))
  refine OGoW.st (fun _ k => XS.dup X11.here hx rfl (hb hby at_46) rfl rfl k) ?_
  show OGoW p e below s _ _ _ (T11.setTop (mkF m 47 #[.val (.long q0), .second, .val (.long q1), .second, .val (.long q2), .second, .val (.ref b1), .val (.ref b6), .unset, .unset, .unset, .unset, .unset] [(.ref b11), (.ref b11)]))
  obtain ⟨b12, T12, h12, kk12, X12, e12, E12, hS12, hk12, hZ, hown, st12⟩ := ldcS X11 hx hZ hown (hw _ (List.mem_of_getElem? (i := 104) rfl)) wS e11 hS8 hk11 (g := (mkF m 47 #[.val (.long q0), .second, .val (.long q1), .second, .val (.long q2), .second, .val (.ref b1), .val (.ref b6), .unset, .unset, .unset, .unset, .unset] [(.ref b11), (.ref b11)])) rfl (hb hby at_47) (n := 4) (by decide) (by decide) (by decide) (by decide)
  refine OGoW.st st12 ?_
  have S_D_w12 := S_D_w11.ext E12
  have A1_w12 := A1_w11.ext E12
  have F5_w12 := F5_w11.ext E12
  have A6_w12 := A6_w11.ext E12
  have F10_w12 := F10_w11.ext E12
  have A11_w12 := A11.ext E12
  have F_attributes_b11_w12 := F_attributes_b11.ext E12
  have F_id_b11_w12 := F_id_b11.ext E12
  have F_type_b11_w12 := F_type_b11.ext E12
  have F_outgoing_b11_w12 := F_outgoing_b11.ext E12
  have F_incoming_b11_w12 := F_incoming_b11.ext E12
  have F_serial_b11_w12 := F_serial_b11.ext E12
  have K12 : Keep h0 h12 [] := (K11).ext E12
  have Z12 : n0 ≤ h12.size := Nat.le_trans Z11 E12.1
  show OGoW p e below s _ _ _ (T12.setTop (mkF m 49 #[.val (.long q0), .second, .val (.long q1), .second, .val (.long q2), .second, .val (.ref b1), .val (.ref b6), .unset, .unset, .unset, .unset, .unset] [(.ref b12), (.ref b11), (.ref b11)]))
  obtain ⟨b13, T13, h13, kk13, X13, e13, E13, hS13, hk13, hZ, hown, st13⟩ := ldcS X12 hx hZ hown (hw _ (List.mem_of_getElem? (i := 11) rfl)) wS e12 hS12 hk12 (g := (mkF m 49 #[.val (.long q0), .second, .val (.long q1), .second, .val (.long q2), .second, .val (.ref b1), .val (.ref b6), .unset, .unset, .unset, .unset, .unset] [(.ref b12), (.ref b11), (.ref b11)])) rfl (hb hby at_49) (n := 4) (by decide) (by decide) (by decide) (by decide)
  refine OGoW.st st13 ?_
  have S_D_w13 := S_D_w12.ext E13
  have A1_w13 := A1_w12.ext E13
  have F5_w13 := F5_w12.ext E13
  have A6_w13 := A6_w12.ext E13
  have F10_w13 := F10_w12.ext E13
  have A11_w13 := A11_w12.ext E13
  have F_attributes_b11_w13 := F_attributes_b11_w12.ext E13
  have F_id_b11_w13 := F_id_b11_w12.ext E13
  have F_type_b11_w13 := F_type_b11_w12.ext E13
  have F_outgoing_b11_w13 := F_outgoing_b11_w12.ext E13
  have F_incoming_b11_w13 := F_incoming_b11_w12.ext E13
  have F_serial_b11_w13 := F_serial_b11_w12.ext E13
  have K13 : Keep h0 h13 [] := (K12).ext E13
  have Z13 : n0 ≤ h13.size := Nat.le_trans Z12 E13.1
  show OGoW p e below s _ _ _ (T13.setTop (mkF m 51 #[.val (.long q0), .second, .val (.long q1), .second, .val (.long q2), .second, .val (.ref b1), .val (.ref b6), .unset, .unset, .unset, .unset, .unset] [(.ref b13), (.ref b12), (.ref b11), (.ref b11)]))
  obtain ⟨_, _, ⟨T14, L14, k14, n14⟩, -, X14, ⟨Lc14, hQ14, l14, y14, z14⟩, st14⟩ := X13.specialBack hx (y := (⟨"com/example/pushout_bench/pushoutbench/graph/Node", "<init>", "(Ljava/lang/String;Ljava/lang/String;)V"⟩ : MethodName)) rfl hown (mvT hZ (hw _ (List.mem_of_getElem? (i := 12) rfl))) (mvT hZ (hw _ (List.mem_of_getElem? (i := 13) rfl))) (mvT hZ (hw _ (List.mem_of_getElem? (i := 14) rfl))) (by decide) (backOf (W := 1) (rm1 l Z a0 hw [] b11 b12 b13 w_D h13 n0 Z13 A11_w13 F_attributes_b11_w13 F_id_b11_w13 F_type_b11_w13 F_outgoing_b11_w13 F_incoming_b11_w13 F_serial_b11_w13 S_D_w13 g_b11) hZ (hw _ (List.mem_of_getElem? (i := 14) rfl)) (hw _ (List.mem_of_getElem? (i := 2) rfl)) (by decide) (by decide)) (g := (mkF m 51 #[.val (.long q0), .second, .val (.long q1), .second, .val (.long q2), .second, .val (.ref b1), .val (.ref b6), .unset, .unset, .unset, .unset, .unset] [(.ref b13), (.ref b12), (.ref b11), (.ref b11)])) rfl (by rw [hml]; rfl) (Steps.refl _) (a := b11) (argsL := [(.ref b12), (.ref b13)]) (rest := [(.ref b11)]) (lenOf pd_0_0 rfl) rfl (by show 2 * 0 + _ ≤ _; exact Nat.le_of_eq rfl) (hb hby at_51) (fun _ _ => ⟨rfl, e13, (by decide : 19 + 3 ≤ _), (by decide : 96 + 18 ≤ _)⟩)
  dsimp only [Pt.U, Pt.locs, Pt.cells, Pt.slots] at X14 l14 y14 z14 st14 hQ14
  subst l14 y14 z14
  obtain ⟨rfl, N14q, Kc14, G14_0⟩ := hQ14
  have S_D_w14 := osta_keep S_D_w13 Kc14 (osta_exa A11_w13 (fun _ _ _ _ => nin0))
  have A1_w14 := A1_w13.keep Kc14
  have F5_w14 := F5_w13.keep Kc14 (ninS ne_b1_b11 nin0)
  have A6_w14 := A6_w13.keep Kc14
  have F10_w14 := F10_w13.keep Kc14 (ninS ne_b6_b11 nin0)
  have A11_w14 := A11_w13.keep Kc14
  have K14 : Keep h0 T14.heap [] := (K13).trans Kc14 (allS (Or.inr sz_b11) all0)
  have Z14 : n0 ≤ T14.heap.size := Nat.le_trans Z13 Kc14.1
  have hk14 := Nat.le_trans hk13 Kc14.1
  have N14 := Fr.app N10 N14q
  refine OGoW.st (fun _ k => st14.trans k) ?_
  show OGoW p e below s _ _ _ (T14.setTop (mkF m 54 #[.val (.long q0), .second, .val (.long q1), .second, .val (.long q2), .second, .val (.ref b1), .val (.ref b6), .unset, .unset, .unset, .unset, .unset] [(.ref b11)]))
  refine OGoW.st (fun _ k => XS.astore X14.here hx rfl (hb hby at_54) rfl rfl (l' := #[.val (.long q0), .second, .val (.long q1), .second, .val (.long q2), .second, .val (.ref b1), .val (.ref b6), .val (.ref b11), .unset, .unset, .unset, .unset]) rfl k) ?_
  show OGoW p e below s _ _ _ (T14.setTop (mkF m 56 #[.val (.long q0), .second, .val (.long q1), .second, .val (.long q2), .second, .val (.ref b1), .val (.ref b6), .val (.ref b11), .unset, .unset, .unset, .unset] []))
  refine OGoW.st (fun _ k => XS.aload X14.here hx rfl (hb hby at_56) rfl rfl k) ?_
  show OGoW p e below s _ _ _ (T14.setTop (mkF m 58 #[.val (.long q0), .second, .val (.long q1), .second, .val (.long q2), .second, .val (.ref b1), .val (.ref b6), .val (.ref b11), .unset, .unset, .unset, .unset] [(.ref b11)]))
  refine OGoW.st (fun _ k => XS.lloadN X14.here hx rfl (hb hby at_58) rfl k) ?_
  show OGoW p e below s _ _ _ (T14.setTop (mkF m 59 #[.val (.long q0), .second, .val (.long q1), .second, .val (.long q2), .second, .val (.ref b1), .val (.ref b6), .val (.ref b11), .unset, .unset, .unset, .unset] [(.long q0), (.ref b11)]))
  obtain ⟨T15, h15, X15, e15, W15, st15⟩ := putF X14 hx hZ hown (host := "") (Or.inl (hw _ (List.mem_of_getElem? (i := 83) rfl))) (Via.of (hw _ (List.mem_of_getElem? (i := 84) rfl))) rfl G14_0 A11_w14 (Or.inl (hw _ (List.mem_of_getElem? (i := 85) rfl))) (hw _ (List.mem_of_getElem? (i := 1) rfl)) (ty := .long) (by decide) rfl rfl (g := (mkF m 59 #[.val (.long q0), .second, .val (.long q1), .second, .val (.long q2), .second, .val (.ref b1), .val (.ref b6), .val (.ref b11), .unset, .unset, .unset, .unset] [(.long q0), (.ref b11)])) rfl rfl (hb hby at_59)
  refine OGoW.st st15 ?_
  have S_D_w15 := S_D_w14.wr W15
  have A1_w15 := A1_w14.wr W15
  have F5_w15 := F5_w14.other W15 (Or.inl ne_b1_b11)
  have A6_w15 := A6_w14.wr W15
  have F10_w15 := F10_w14.other W15 (Or.inl ne_b6_b11)
  have A11_w15 := A11_w14.wr W15
  have K15 : Keep h0 h15 [] := (K14).wr W15 (Or.inr sz_b11)
  have N15 := Fr.snoc X15 N14 g_b11
  have Z15 : n0 ≤ h15.size := Nat.le_trans Z14 (Keep.of_wr W15).1
  have hk15 := Nat.le_trans hk14 (Keep.of_wr W15).1
  have F15 : Fld Z h15 b11 "com/example/pushout_bench/pushoutbench/graph/Element" "serial" "J" (.long q0) := G14_0.same W15
  show OGoW p e below s _ _ _ (T15.setTop (mkF m 62 #[.val (.long q0), .second, .val (.long q1), .second, .val (.long q2), .second, .val (.ref b1), .val (.ref b6), .val (.ref b11), .unset, .unset, .unset, .unset] []))
  obtain ⟨T16, h16, X16, e16, E16, A16, D16, U16, st16⟩ := newO X15 hx hZ hown (hw _ (List.mem_of_getElem? (i := 105) rfl)) (hw _ (List.mem_of_getElem? (i := 106) rfl)) (hw _ (List.mem_of_getElem? (i := 107) rfl)) e15 (g := (mkF m 62 #[.val (.long q0), .second, .val (.long q1), .second, .val (.long q2), .second, .val (.ref b1), .val (.ref b6), .val (.ref b11), .unset, .unset, .unset, .unset] [])) rfl (hb hby at_62) (by decide) (by decide)
  obtain ⟨b16, g16⟩ : ∃ z, z = h15.size := ⟨_, rfl⟩
  rw [← g16] at A16 D16 U16 st16
  refine OGoW.st st16 ?_
  have S_D_w16 := S_D_w15.ext E16
  have A1_w16 := A1_w15.ext E16
  have ne_b1_b16 : b1 ≠ b16 := Nat.ne_of_lt (Nat.lt_of_lt_of_le A1_w15.lt (Nat.le_of_eq g16.symm))
  have F5_w16 := F5_w15.ext E16
  have A6_w16 := A6_w15.ext E16
  have ne_b6_b16 : b6 ≠ b16 := Nat.ne_of_lt (Nat.lt_of_lt_of_le A6_w15.lt (Nat.le_of_eq g16.symm))
  have F10_w16 := F10_w15.ext E16
  have A11_w16 := A11_w15.ext E16
  have ne_b11_b16 : b11 ≠ b16 := Nat.ne_of_lt (Nat.lt_of_lt_of_le A11_w15.lt (Nat.le_of_eq g16.symm))
  have F15_w16 := F15.ext E16
  have g_b16 : n0 ≤ b16 := Nat.le_trans Z15 (Nat.le_of_eq g16.symm)
  have sz_b16 : h0.size ≤ b16 := Nat.le_trans (K15).1 (Nat.le_of_eq g16.symm)
  have K16 : Keep h0 h16 [] := (K15).ext E16
  have Z16 : n0 ≤ h16.size := Nat.le_trans Z15 E16.1
  have hk16 := Nat.le_trans hk15 E16.1
  have F_attributes_b16 : Fld Z h16 b16 "com/example/pushout_bench/pushoutbench/graph/Changes" "attributes" "Ljava/util/Map;" .null := D16 (Or.inr (hw _ (List.mem_of_getElem? (i := 115) rfl))) (ty := (.object "java/util/Map")) (by decide)
  have F_added_b16 : Fld Z h16 b16 "com/example/pushout_bench/pushoutbench/graph/Changes" "added" "Ljava/util/Map;" .null := D16 (Or.inr (hw _ (List.mem_of_getElem? (i := 122) rfl))) (ty := (.object "java/util/Map")) (by decide)
  have F_addedOrRemoved_b16 : Fld Z h16 b16 "com/example/pushout_bench/pushoutbench/graph/Changes" "addedOrRemoved" "Ljava/util/Set;" .null := D16 (Or.inr (hw _ (List.mem_of_getElem? (i := 143) rfl))) (ty := (.object "java/util/Set")) (by decide)
  have F_removedOutgoing_b16 : Fld Z h16 b16 "com/example/pushout_bench/pushoutbench/graph/Changes" "removedOutgoing" "Ljava/util/Map;" .null := D16 (Or.inr (hw _ (List.mem_of_getElem? (i := 145) rfl))) (ty := (.object "java/util/Map")) (by decide)
  have F_removedIncoming_b16 : Fld Z h16 b16 "com/example/pushout_bench/pushoutbench/graph/Changes" "removedIncoming" "Ljava/util/Map;" .null := D16 (Or.inr (hw _ (List.mem_of_getElem? (i := 147) rfl))) (ty := (.object "java/util/Map")) (by decide)
  have F_markSerial_b16 : Fld Z h16 b16 "com/example/pushout_bench/pushoutbench/graph/Changes" "markSerial" "J" (.long (0 : Int64)) := D16 (Or.inr (hw _ (List.mem_of_getElem? (i := 149) rfl))) (ty := .long) (by decide)
  show OGoW p e below s _ _ _ (T16.setTop (mkF m 65 #[.val (.long q0), .second, .val (.long q1), .second, .val (.long q2), .second, .val (.ref b1), .val (.ref b6), .val (.ref b11), .unset, .unset, .unset, .unset] [(.ref b16)]))
  refine OGoW.st (fun _ k => XS.dup X16.here hx rfl (hb hby at_65) rfl rfl k) ?_
  show OGoW p e below s _ _ _ (T16.setTop (mkF m 66 #[.val (.long q0), .second, .val (.long q1), .second, .val (.long q2), .second, .val (.ref b1), .val (.ref b6), .val (.ref b11), .unset, .unset, .unset, .unset] [(.ref b16), (.ref b16)]))
  refine OGoW.st (fun _ k => XS.lloadN X16.here hx rfl (hb hby at_66) rfl k) ?_
  show OGoW p e below s _ _ _ (T16.setTop (mkF m 67 #[.val (.long q0), .second, .val (.long q1), .second, .val (.long q2), .second, .val (.ref b1), .val (.ref b6), .val (.ref b11), .unset, .unset, .unset, .unset] [(.long q0), (.ref b16), (.ref b16)]))
  obtain ⟨_, _, ⟨T17, L17, k17, n17⟩, -, X17, ⟨Lc17, hQ17, l17, y17, z17⟩, st17⟩ := X16.specialBack hx (y := (⟨"com/example/pushout_bench/pushoutbench/graph/Changes", "<init>", "(J)V"⟩ : MethodName)) rfl hown (mvT hZ (hw _ (List.mem_of_getElem? (i := 108) rfl))) (mvT hZ (hw _ (List.mem_of_getElem? (i := 109) rfl))) (mvT hZ (hw _ (List.mem_of_getElem? (i := 110) rfl))) (by decide) (backOf (W := 1) (rm11 l Z a0 hw [] b16 q0 h16 n0 Z16 A16 F_attributes_b16 F_added_b16 F_addedOrRemoved_b16 F_removedOutgoing_b16 F_removedIncoming_b16 F_markSerial_b16 g_b16) hZ (hw _ (List.mem_of_getElem? (i := 110) rfl)) (hw _ (List.mem_of_getElem? (i := 107) rfl)) (by decide) (by decide)) (g := (mkF m 67 #[.val (.long q0), .second, .val (.long q1), .second, .val (.long q2), .second, .val (.ref b1), .val (.ref b6), .val (.ref b11), .unset, .unset, .unset, .unset] [(.long q0), (.ref b16), (.ref b16)])) rfl (by rw [hml]; rfl) (Steps.refl _) (a := b16) (argsL := [(.long q0)]) (rest := [(.ref b16)]) (lenOf pd_0_2 rfl) rfl (by show 2 * 0 + _ ≤ _; exact Nat.le_of_eq rfl) (hb hby at_67) (fun _ _ => ⟨rfl, e16, (by decide : 23 + 6 ≤ _), (by decide : 120 + 45 ≤ _)⟩)
  dsimp only [Pt.U, Pt.locs, Pt.cells, Pt.slots] at X17 l17 y17 z17 st17 hQ17
  subst l17 y17 z17
  obtain ⟨rfl, N17q, Kc17, G17_0⟩ := hQ17
  have S_D_w17 := osta_keep S_D_w16 Kc17 (osta_exa A16 (fun _ _ _ _ => nin0))
  have A1_w17 := A1_w16.keep Kc17
  have F5_w17 := F5_w16.keep Kc17 (ninS ne_b1_b16 nin0)
  have A6_w17 := A6_w16.keep Kc17
  have F10_w17 := F10_w16.keep Kc17 (ninS ne_b6_b16 nin0)
  have A11_w17 := A11_w16.keep Kc17
  have F15_w17 := F15_w16.keep Kc17 (ninS ne_b11_b16 nin0)
  have A16_w17 := A16.keep Kc17
  have K17 : Keep h0 T17.heap [] := (K16).trans Kc17 (allS (Or.inr sz_b16) all0)
  have Z17 : n0 ≤ T17.heap.size := Nat.le_trans Z16 Kc17.1
  have hk17 := Nat.le_trans hk16 Kc17.1
  have N17 := Fr.app N15 N17q
  refine OGoW.st (fun _ k => st17.trans k) ?_
  show OGoW p e below s _ _ _ (T17.setTop (mkF m 70 #[.val (.long q0), .second, .val (.long q1), .second, .val (.long q2), .second, .val (.ref b1), .val (.ref b6), .val (.ref b11), .unset, .unset, .unset, .unset] [(.ref b16)]))
  refine OGoW.st (fun _ k => XS.astore X17.here hx rfl (hb hby at_70) rfl rfl (l' := #[.val (.long q0), .second, .val (.long q1), .second, .val (.long q2), .second, .val (.ref b1), .val (.ref b6), .val (.ref b11), .val (.ref b16), .unset, .unset, .unset]) rfl k) ?_
  show OGoW p e below s _ _ _ (T17.setTop (mkF m 72 #[.val (.long q0), .second, .val (.long q1), .second, .val (.long q2), .second, .val (.ref b1), .val (.ref b6), .val (.ref b11), .val (.ref b16), .unset, .unset, .unset] []))
  refine OGoW.st (fun _ k => XS.aload X17.here hx rfl (hb hby at_72) rfl rfl k) ?_
  show OGoW p e below s _ _ _ (T17.setTop (mkF m 74 #[.val (.long q0), .second, .val (.long q1), .second, .val (.long q2), .second, .val (.ref b1), .val (.ref b6), .val (.ref b11), .val (.ref b16), .unset, .unset, .unset] [(.ref b16)]))
  refine OGoW.st (fun _ k => XS.aload X17.here hx rfl (hb hby at_74) rfl rfl k) ?_
  show OGoW p e below s _ _ _ (T17.setTop (mkF m 76 #[.val (.long q0), .second, .val (.long q1), .second, .val (.long q2), .second, .val (.ref b1), .val (.ref b6), .val (.ref b11), .val (.ref b16), .unset, .unset, .unset] [(.ref b1), (.ref b16)]))
  obtain ⟨cq18, kq18, q18a, q18b, q18c⟩ := isOf hZ rfl A16_w17
  obtain ⟨_, _, ⟨T18, L18, k18, n18⟩, -, X18, ⟨Lc18, hQ18, l18, y18, z18⟩, st18⟩ := X17.virtualBack hx (y := (⟨"com/example/pushout_bench/pushoutbench/graph/Changes", "isNew", "(Lcom/example/pushout_bench/pushoutbench/graph/Element;)Z"⟩ : MethodName)) (z := (⟨"com/example/pushout_bench/pushoutbench/graph/Changes", "isNew", "(Lcom/example/pushout_bench/pushoutbench/graph/Element;)Z"⟩ : MethodName)) hown (mvT hZ (hw _ (List.mem_of_getElem? (i := 150) rfl))) (mvT hZ (hw _ (List.mem_of_getElem? (i := 151) rfl))) (notFace_of_selects (args := #[]) (mvT hZ (hw _ (List.mem_of_getElem? (i := 153) rfl)))) (mvT hZ (hw _ (List.mem_of_getElem? (i := 153) rfl))) (mvT hZ (hw _ (List.mem_of_getElem? (i := 152) rfl))) (by decide) (backOf (W := 0) (rm14Node l Z a0 hw [] b16 b1 q0 q1 T17.heap n0 Z17 G17_0 A1_w17 F5_w17) hZ (hw _ (List.mem_of_getElem? (i := 154) rfl)) (hw _ (List.mem_of_getElem? (i := 107) rfl)) (by decide) (by decide)) q18a q18c (g := (mkF m 76 #[.val (.long q0), .second, .val (.long q1), .second, .val (.long q2), .second, .val (.ref b1), .val (.ref b6), .val (.ref b11), .val (.ref b16), .unset, .unset, .unset] [(.ref b1), (.ref b16)])) rfl (by rw [hml]; rfl) (Steps.refl _) (argsL := [(.ref b1)]) (rest := []) (lenOf pd_0_3 rfl) rfl (by show 2 * 0 + _ ≤ _; exact Nat.le_of_eq rfl) (hb hby at_76) (fun _ _ => ⟨rfl, rfl, (by decide : 29 + 0 ≤ _), (by decide : 165 + 0 ≤ _)⟩)
  dsimp only [Pt.U, Pt.locs, Pt.cells, Pt.slots] at X18 l18 y18 z18 st18 hQ18
  subst l18 y18 z18
  obtain ⟨rfl, N18q, e18⟩ := hQ18
  have N18 := Fr.app N17 N18q
  refine OGoW.st (fun _ k => st18.trans k) ?_
  show OGoW p e below s _ _ _ (T18.setTop (mkF m 79 #[.val (.long q0), .second, .val (.long q1), .second, .val (.long q2), .second, .val (.ref b1), .val (.ref b6), .val (.ref b11), .val (.ref b16), .unset, .unset, .unset] [(.int (f14Node q0 q1))]))
  refine OGoW.st (fun _ k => XS.lloadN X18.here hx rfl (hb hby at_79) rfl k) ?_
  show OGoW p e below s _ _ _ (T18.setTop (mkF m 80 #[.val (.long q0), .second, .val (.long q1), .second, .val (.long q2), .second, .val (.ref b1), .val (.ref b6), .val (.ref b11), .val (.ref b16), .unset, .unset, .unset] [(.long q1), (.int (f14Node q0 q1))]))
  refine OGoW.st (fun _ k => XS.lloadN X18.here hx rfl (hb hby at_80) rfl k) ?_
  show OGoW p e below s _ _ _ (T18.setTop (mkF m 81 #[.val (.long q0), .second, .val (.long q1), .second, .val (.long q2), .second, .val (.ref b1), .val (.ref b6), .val (.ref b11), .val (.ref b16), .unset, .unset, .unset] [(.long q0), (.long q1), (.int (f14Node q0 q1))]))
  refine OGoW.st (fun _ k => XS.lcmp X18.here hx rfl (hb hby at_81) rfl k) ?_
  show OGoW p e below s _ _ _ (T18.setTop (mkF m 82 #[.val (.long q0), .second, .val (.long q1), .second, .val (.long q2), .second, .val (.ref b1), .val (.ref b6), .val (.ref b11), .val (.ref b16), .unset, .unset, .unset] [(.int (lcmpW q1 q0)), (.int (f14Node q0 q1))]))
  have hj90 : ∀ (j90_0 : Int32) (hf90_0 : f0 q0 q1 q2 w_D = f0_90 q0 q1 q2 w_D j90_0), OGoW p e below s (Q0 Z q0 q1 q2 w_D h0 n0) room_1.cells room_1.slots (T18.setTop (mkF m 90 #[.val (.long q0), .second, .val (.long q1), .second, .val (.long q2), .second, .val (.ref b1), .val (.ref b6), .val (.ref b11), .val (.ref b16), .unset, .unset, .unset] [(.int j90_0), (.int (f14Node q0 q1))])) := by
    intro j90_0 hf90_0
    have hj98 : ∀ (j98_0 : Int32) (hf98_0 : f0 q0 q1 q2 w_D = f0_98 q0 q1 q2 w_D j90_0 j98_0), OGoW p e below s (Q0 Z q0 q1 q2 w_D h0 n0) room_1.cells room_1.slots (T18.setTop (mkF m 98 #[.val (.long q0), .second, .val (.long q1), .second, .val (.long q2), .second, .val (.ref b1), .val (.ref b6), .val (.ref b11), .val (.ref b16), .unset, .unset, .unset] [(.int j98_0)])) := by
      intro j98_0 hf98_0
      refine OGoW.st (fun _ k => XS.istore X18.here hx rfl (hb hby at_98) rfl (l' := #[.val (.long q0), .second, .val (.long q1), .second, .val (.long q2), .second, .val (.ref b1), .val (.ref b6), .val (.ref b11), .val (.ref b16), .val (.int j98_0), .unset, .unset]) rfl k) ?_
      show OGoW p e below s _ _ _ (T18.setTop (mkF m 100 #[.val (.long q0), .second, .val (.long q1), .second, .val (.long q2), .second, .val (.ref b1), .val (.ref b6), .val (.ref b11), .val (.ref b16), .val (.int j98_0), .unset, .unset] []))
      refine OGoW.st (fun _ k => XS.aload X18.here hx rfl (hb hby at_100) rfl rfl k) ?_
      show OGoW p e below s _ _ _ (T18.setTop (mkF m 102 #[.val (.long q0), .second, .val (.long q1), .second, .val (.long q2), .second, .val (.ref b1), .val (.ref b6), .val (.ref b11), .val (.ref b16), .val (.int j98_0), .unset, .unset] [(.ref b16)]))
      refine OGoW.st (fun _ k => XS.aload X18.here hx rfl (hb hby at_102) rfl rfl k) ?_
      show OGoW p e below s _ _ _ (T18.setTop (mkF m 104 #[.val (.long q0), .second, .val (.long q1), .second, .val (.long q2), .second, .val (.ref b1), .val (.ref b6), .val (.ref b11), .val (.ref b16), .val (.int j98_0), .unset, .unset] [(.ref b6), (.ref b16)]))
      obtain ⟨cq21, kq21, q21a, q21b, q21c⟩ := isOf hZ e18 A16_w17
      obtain ⟨_, _, ⟨T21, L21, k21, n21⟩, -, X21, ⟨Lc21, hQ21, l21, y21, z21⟩, st21⟩ := X18.virtualBack hx (y := (⟨"com/example/pushout_bench/pushoutbench/graph/Changes", "isNew", "(Lcom/example/pushout_bench/pushoutbench/graph/Element;)Z"⟩ : MethodName)) (z := (⟨"com/example/pushout_bench/pushoutbench/graph/Changes", "isNew", "(Lcom/example/pushout_bench/pushoutbench/graph/Element;)Z"⟩ : MethodName)) hown (mvT hZ (hw _ (List.mem_of_getElem? (i := 150) rfl))) (mvT hZ (hw _ (List.mem_of_getElem? (i := 151) rfl))) (notFace_of_selects (args := #[]) (mvT hZ (hw _ (List.mem_of_getElem? (i := 153) rfl)))) (mvT hZ (hw _ (List.mem_of_getElem? (i := 153) rfl))) (mvT hZ (hw _ (List.mem_of_getElem? (i := 152) rfl))) (by decide) (backOf (W := 0) (rm14Edge l Z a0 hw [] b16 b6 q0 q2 T17.heap n0 Z17 G17_0 A6_w17 F10_w17) hZ (hw _ (List.mem_of_getElem? (i := 154) rfl)) (hw _ (List.mem_of_getElem? (i := 107) rfl)) (by decide) (by decide)) q21a q21c (g := (mkF m 104 #[.val (.long q0), .second, .val (.long q1), .second, .val (.long q2), .second, .val (.ref b1), .val (.ref b6), .val (.ref b11), .val (.ref b16), .val (.int j98_0), .unset, .unset] [(.ref b6), (.ref b16)])) rfl (by rw [hml]; rfl) (Steps.refl _) (argsL := [(.ref b6)]) (rest := []) (lenOf pd_0_3 rfl) rfl (by show 2 * 0 + _ ≤ _; exact Nat.le_of_eq rfl) (hb hby at_104) (fun _ _ => ⟨rfl, e18, (by decide : 29 + 0 ≤ _), (by decide : 165 + 0 ≤ _)⟩)
      dsimp only [Pt.U, Pt.locs, Pt.cells, Pt.slots] at X21 l21 y21 z21 st21 hQ21
      subst l21 y21 z21
      obtain ⟨rfl, N21q, e21⟩ := hQ21
      have N21 := Fr.app N18 N21q
      refine OGoW.st (fun _ k => st21.trans k) ?_
      show OGoW p e below s _ _ _ (T21.setTop (mkF m 107 #[.val (.long q0), .second, .val (.long q1), .second, .val (.long q2), .second, .val (.ref b1), .val (.ref b6), .val (.ref b11), .val (.ref b16), .val (.int j98_0), .unset, .unset] [(.int (f14Edge q0 q2))]))
      refine OGoW.st (fun _ k => XS.lload X21.here hx rfl (hb hby at_107) rfl k) ?_
      show OGoW p e below s _ _ _ (T21.setTop (mkF m 109 #[.val (.long q0), .second, .val (.long q1), .second, .val (.long q2), .second, .val (.ref b1), .val (.ref b6), .val (.ref b11), .val (.ref b16), .val (.int j98_0), .unset, .unset] [(.long q2), (.int (f14Edge q0 q2))]))
      refine OGoW.st (fun _ k => XS.lloadN X21.here hx rfl (hb hby at_109) rfl k) ?_
      show OGoW p e below s _ _ _ (T21.setTop (mkF m 110 #[.val (.long q0), .second, .val (.long q1), .second, .val (.long q2), .second, .val (.ref b1), .val (.ref b6), .val (.ref b11), .val (.ref b16), .val (.int j98_0), .unset, .unset] [(.long q0), (.long q2), (.int (f14Edge q0 q2))]))
      refine OGoW.st (fun _ k => XS.lcmp X21.here hx rfl (hb hby at_110) rfl k) ?_
      show OGoW p e below s _ _ _ (T21.setTop (mkF m 111 #[.val (.long q0), .second, .val (.long q1), .second, .val (.long q2), .second, .val (.ref b1), .val (.ref b6), .val (.ref b11), .val (.ref b16), .val (.int j98_0), .unset, .unset] [(.int (lcmpW q2 q0)), (.int (f14Edge q0 q2))]))
      have hj119 : ∀ (j119_0 : Int32) (hf119_0 : f0 q0 q1 q2 w_D = f0_119 q0 q1 q2 w_D j90_0 j98_0 j119_0), OGoW p e below s (Q0 Z q0 q1 q2 w_D h0 n0) room_1.cells room_1.slots (T21.setTop (mkF m 119 #[.val (.long q0), .second, .val (.long q1), .second, .val (.long q2), .second, .val (.ref b1), .val (.ref b6), .val (.ref b11), .val (.ref b16), .val (.int j98_0), .unset, .unset] [(.int j119_0), (.int (f14Edge q0 q2))])) := by
        intro j119_0 hf119_0
        have hj127 : ∀ (j127_0 : Int32) (hf127_0 : f0 q0 q1 q2 w_D = f0_127 q0 q1 q2 w_D j90_0 j98_0 j119_0 j127_0), OGoW p e below s (Q0 Z q0 q1 q2 w_D h0 n0) room_1.cells room_1.slots (T21.setTop (mkF m 127 #[.val (.long q0), .second, .val (.long q1), .second, .val (.long q2), .second, .val (.ref b1), .val (.ref b6), .val (.ref b11), .val (.ref b16), .val (.int j98_0), .unset, .unset] [(.int j127_0)])) := by
          intro j127_0 hf127_0
          refine OGoW.st (fun _ k => XS.istore X21.here hx rfl (hb hby at_127) rfl (l' := #[.val (.long q0), .second, .val (.long q1), .second, .val (.long q2), .second, .val (.ref b1), .val (.ref b6), .val (.ref b11), .val (.ref b16), .val (.int j98_0), .val (.int j127_0), .unset]) rfl k) ?_
          show OGoW p e below s _ _ _ (T21.setTop (mkF m 129 #[.val (.long q0), .second, .val (.long q1), .second, .val (.long q2), .second, .val (.ref b1), .val (.ref b6), .val (.ref b11), .val (.ref b16), .val (.int j98_0), .val (.int j127_0), .unset] []))
          refine OGoW.st (fun _ k => XS.aload X21.here hx rfl (hb hby at_129) rfl rfl k) ?_
          show OGoW p e below s _ _ _ (T21.setTop (mkF m 131 #[.val (.long q0), .second, .val (.long q1), .second, .val (.long q2), .second, .val (.ref b1), .val (.ref b6), .val (.ref b11), .val (.ref b16), .val (.int j98_0), .val (.int j127_0), .unset] [(.ref b16)]))
          refine OGoW.st (fun _ k => XS.aload X21.here hx rfl (hb hby at_131) rfl rfl k) ?_
          show OGoW p e below s _ _ _ (T21.setTop (mkF m 133 #[.val (.long q0), .second, .val (.long q1), .second, .val (.long q2), .second, .val (.ref b1), .val (.ref b6), .val (.ref b11), .val (.ref b16), .val (.int j98_0), .val (.int j127_0), .unset] [(.ref b11), (.ref b16)]))
          obtain ⟨cq24, kq24, q24a, q24b, q24c⟩ := isOf hZ e21 A16_w17
          obtain ⟨_, _, ⟨T24, L24, k24, n24⟩, -, X24, ⟨Lc24, hQ24, l24, y24, z24⟩, st24⟩ := X21.virtualBack hx (y := (⟨"com/example/pushout_bench/pushoutbench/graph/Changes", "isNew", "(Lcom/example/pushout_bench/pushoutbench/graph/Element;)Z"⟩ : MethodName)) (z := (⟨"com/example/pushout_bench/pushoutbench/graph/Changes", "isNew", "(Lcom/example/pushout_bench/pushoutbench/graph/Element;)Z"⟩ : MethodName)) hown (mvT hZ (hw _ (List.mem_of_getElem? (i := 150) rfl))) (mvT hZ (hw _ (List.mem_of_getElem? (i := 151) rfl))) (notFace_of_selects (args := #[]) (mvT hZ (hw _ (List.mem_of_getElem? (i := 153) rfl)))) (mvT hZ (hw _ (List.mem_of_getElem? (i := 153) rfl))) (mvT hZ (hw _ (List.mem_of_getElem? (i := 152) rfl))) (by decide) (backOf (W := 0) (rm14Node l Z a0 hw [] b16 b11 q0 q0 T17.heap n0 Z17 G17_0 A11_w17 F15_w17) hZ (hw _ (List.mem_of_getElem? (i := 154) rfl)) (hw _ (List.mem_of_getElem? (i := 107) rfl)) (by decide) (by decide)) q24a q24c (g := (mkF m 133 #[.val (.long q0), .second, .val (.long q1), .second, .val (.long q2), .second, .val (.ref b1), .val (.ref b6), .val (.ref b11), .val (.ref b16), .val (.int j98_0), .val (.int j127_0), .unset] [(.ref b11), (.ref b16)])) rfl (by rw [hml]; rfl) (Steps.refl _) (argsL := [(.ref b11)]) (rest := []) (lenOf pd_0_3 rfl) rfl (by show 2 * 0 + _ ≤ _; exact Nat.le_of_eq rfl) (hb hby at_133) (fun _ _ => ⟨rfl, e21, (by decide : 29 + 0 ≤ _), (by decide : 165 + 0 ≤ _)⟩)
          dsimp only [Pt.U, Pt.locs, Pt.cells, Pt.slots] at X24 l24 y24 z24 st24 hQ24
          subst l24 y24 z24
          obtain ⟨rfl, N24q, e24⟩ := hQ24
          have N24 := Fr.app N21 N24q
          refine OGoW.st (fun _ k => st24.trans k) ?_
          show OGoW p e below s _ _ _ (T24.setTop (mkF m 136 #[.val (.long q0), .second, .val (.long q1), .second, .val (.long q2), .second, .val (.ref b1), .val (.ref b6), .val (.ref b11), .val (.ref b16), .val (.int j98_0), .val (.int j127_0), .unset] [(.int (f14Node q0 q0))]))
          refine OGoW.st (fun _ k => XS.istore X24.here hx rfl (hb hby at_136) rfl (l' := #[.val (.long q0), .second, .val (.long q1), .second, .val (.long q2), .second, .val (.ref b1), .val (.ref b6), .val (.ref b11), .val (.ref b16), .val (.int j98_0), .val (.int j127_0), .val (.int (f14Node q0 q0))]) rfl k) ?_
          show OGoW p e below s _ _ _ (T24.setTop (mkF m 138 #[.val (.long q0), .second, .val (.long q1), .second, .val (.long q2), .second, .val (.ref b1), .val (.ref b6), .val (.ref b11), .val (.ref b16), .val (.int j98_0), .val (.int j127_0), .val (.int (f14Node q0 q0))] []))
          refine OGoW.st (fun _ k => XS.iload X24.here hx rfl (hb hby at_138) rfl k) ?_
          show OGoW p e below s _ _ _ (T24.setTop (mkF m 140 #[.val (.long q0), .second, .val (.long q1), .second, .val (.long q2), .second, .val (.ref b1), .val (.ref b6), .val (.ref b11), .val (.ref b16), .val (.int j98_0), .val (.int j127_0), .val (.int (f14Node q0 q0))] [(.int j98_0)]))
          by_cases hc140 : j98_0 = (0 : Int32)
          · refine OGoW.st (fun _ k => XS.ifYes X24.here hx rfl (pc0 := 140) (pc' := 157) rfl (hb hby at_140) rfl ((if0 _ _).trans (teq hc140).1) (by decide) (by decide) k) ?_
            show OGoW p e below s _ _ _ (T24.setTop (mkF m 157 #[.val (.long q0), .second, .val (.long q1), .second, .val (.long q2), .second, .val (.ref b1), .val (.ref b6), .val (.ref b11), .val (.ref b16), .val (.int j98_0), .val (.int j127_0), .val (.int (f14Node q0 q0))] []))
            refine OGoW.st (fun _ k => XS.iconst X24.here hx rfl (hb hby at_157) k) ?_
            show OGoW p e below s _ _ _ (T24.setTop (mkF m 158 #[.val (.long q0), .second, .val (.long q1), .second, .val (.long q2), .second, .val (.ref b1), .val (.ref b6), .val (.ref b11), .val (.ref b16), .val (.int j98_0), .val (.int j127_0), .val (.int (f14Node q0 q0))] [(.int (0 : Int32))]))
            exact oretNW X24 hx hS13 (by rw [e24]; exact hk17) Bd.notSynchronized (t := .boolean) Bd.returns (by simp) (hb hby at_158) (z' := (0 : Int32)) (by decide) e24 ⟨(congrArg (fun z => some (Value.int z)) (show (0 : Int32) = f0 q0 q1 q2 w_D from Eq.symm (hf127_0.trans (by unfold f0_127; exact if_pos hc140)))), N24⟩ (by decide) (by decide)
          · refine OGoW.st (fun _ k => XS.ifNo X24.here hx rfl (hb hby at_140) rfl ((if0 _ _).trans (feq hc140).1) k) ?_
            show OGoW p e below s _ _ _ (T24.setTop (mkF m 143 #[.val (.long q0), .second, .val (.long q1), .second, .val (.long q2), .second, .val (.ref b1), .val (.ref b6), .val (.ref b11), .val (.ref b16), .val (.int j98_0), .val (.int j127_0), .val (.int (f14Node q0 q0))] []))
            refine OGoW.st (fun _ k => XS.iload X24.here hx rfl (hb hby at_143) rfl k) ?_
            show OGoW p e below s _ _ _ (T24.setTop (mkF m 145 #[.val (.long q0), .second, .val (.long q1), .second, .val (.long q2), .second, .val (.ref b1), .val (.ref b6), .val (.ref b11), .val (.ref b16), .val (.int j98_0), .val (.int j127_0), .val (.int (f14Node q0 q0))] [(.int j127_0)]))
            by_cases hc145 : j127_0 = (0 : Int32)
            · refine OGoW.st (fun _ k => XS.ifYes X24.here hx rfl (pc0 := 145) (pc' := 157) rfl (hb hby at_145) rfl ((if0 _ _).trans (teq hc145).1) (by decide) (by decide) k) ?_
              show OGoW p e below s _ _ _ (T24.setTop (mkF m 157 #[.val (.long q0), .second, .val (.long q1), .second, .val (.long q2), .second, .val (.ref b1), .val (.ref b6), .val (.ref b11), .val (.ref b16), .val (.int j98_0), .val (.int j127_0), .val (.int (f14Node q0 q0))] []))
              refine OGoW.st (fun _ k => XS.iconst X24.here hx rfl (hb hby at_157) k) ?_
              show OGoW p e below s _ _ _ (T24.setTop (mkF m 158 #[.val (.long q0), .second, .val (.long q1), .second, .val (.long q2), .second, .val (.ref b1), .val (.ref b6), .val (.ref b11), .val (.ref b16), .val (.int j98_0), .val (.int j127_0), .val (.int (f14Node q0 q0))] [(.int (0 : Int32))]))
              exact oretNW X24 hx hS13 (by rw [e24]; exact hk17) Bd.notSynchronized (t := .boolean) Bd.returns (by simp) (hb hby at_158) (z' := (0 : Int32)) (by decide) e24 ⟨(congrArg (fun z => some (Value.int z)) (show (0 : Int32) = f0 q0 q1 q2 w_D from Eq.symm (hf127_0.trans (by unfold f0_127; exact (if_neg hc140).trans (if_pos hc145))))), N24⟩ (by decide) (by decide)
            · refine OGoW.st (fun _ k => XS.ifNo X24.here hx rfl (hb hby at_145) rfl ((if0 _ _).trans (feq hc145).1) k) ?_
              show OGoW p e below s _ _ _ (T24.setTop (mkF m 148 #[.val (.long q0), .second, .val (.long q1), .second, .val (.long q2), .second, .val (.ref b1), .val (.ref b6), .val (.ref b11), .val (.ref b16), .val (.int j98_0), .val (.int j127_0), .val (.int (f14Node q0 q0))] []))
              refine OGoW.st (fun _ k => XS.iload X24.here hx rfl (hb hby at_148) rfl k) ?_
              show OGoW p e below s _ _ _ (T24.setTop (mkF m 150 #[.val (.long q0), .second, .val (.long q1), .second, .val (.long q2), .second, .val (.ref b1), .val (.ref b6), .val (.ref b11), .val (.ref b16), .val (.int j98_0), .val (.int j127_0), .val (.int (f14Node q0 q0))] [(.int (f14Node q0 q0))]))
              by_cases hc150 : (f14Node q0 q0) = (0 : Int32)
              · refine OGoW.st (fun _ k => XS.ifYes X24.here hx rfl (pc0 := 150) (pc' := 157) rfl (hb hby at_150) rfl ((if0 _ _).trans (teq hc150).1) (by decide) (by decide) k) ?_
                show OGoW p e below s _ _ _ (T24.setTop (mkF m 157 #[.val (.long q0), .second, .val (.long q1), .second, .val (.long q2), .second, .val (.ref b1), .val (.ref b6), .val (.ref b11), .val (.ref b16), .val (.int j98_0), .val (.int j127_0), .val (.int (f14Node q0 q0))] []))
                refine OGoW.st (fun _ k => XS.iconst X24.here hx rfl (hb hby at_157) k) ?_
                show OGoW p e below s _ _ _ (T24.setTop (mkF m 158 #[.val (.long q0), .second, .val (.long q1), .second, .val (.long q2), .second, .val (.ref b1), .val (.ref b6), .val (.ref b11), .val (.ref b16), .val (.int j98_0), .val (.int j127_0), .val (.int (f14Node q0 q0))] [(.int (0 : Int32))]))
                exact oretNW X24 hx hS13 (by rw [e24]; exact hk17) Bd.notSynchronized (t := .boolean) Bd.returns (by simp) (hb hby at_158) (z' := (0 : Int32)) (by decide) e24 ⟨(congrArg (fun z => some (Value.int z)) (show (0 : Int32) = f0 q0 q1 q2 w_D from Eq.symm (hf127_0.trans (by unfold f0_127; exact (if_neg hc140).trans ((if_neg hc145).trans (if_pos hc150)))))), N24⟩ (by decide) (by decide)
              · refine OGoW.st (fun _ k => XS.ifNo X24.here hx rfl (hb hby at_150) rfl ((if0 _ _).trans (feq hc150).1) k) ?_
                show OGoW p e below s _ _ _ (T24.setTop (mkF m 153 #[.val (.long q0), .second, .val (.long q1), .second, .val (.long q2), .second, .val (.ref b1), .val (.ref b6), .val (.ref b11), .val (.ref b16), .val (.int j98_0), .val (.int j127_0), .val (.int (f14Node q0 q0))] []))
                refine OGoW.st (fun _ k => XS.iconst X24.here hx rfl (hb hby at_153) k) ?_
                show OGoW p e below s _ _ _ (T24.setTop (mkF m 154 #[.val (.long q0), .second, .val (.long q1), .second, .val (.long q2), .second, .val (.ref b1), .val (.ref b6), .val (.ref b11), .val (.ref b16), .val (.int j98_0), .val (.int j127_0), .val (.int (f14Node q0 q0))] [(.int (1 : Int32))]))
                refine OGoW.st (fun _ k => XS.goto X24.here hx rfl (pc0 := 154) (pc' := 158) rfl (hb hby at_154) (by decide) (by decide) k) ?_
                show OGoW p e below s _ _ _ (T24.setTop (mkF m 158 #[.val (.long q0), .second, .val (.long q1), .second, .val (.long q2), .second, .val (.ref b1), .val (.ref b6), .val (.ref b11), .val (.ref b16), .val (.int j98_0), .val (.int j127_0), .val (.int (f14Node q0 q0))] [(.int (1 : Int32))]))
                exact oretNW X24 hx hS13 (by rw [e24]; exact hk17) Bd.notSynchronized (t := .boolean) Bd.returns (by simp) (hb hby at_158) (z' := (1 : Int32)) (by decide) e24 ⟨(congrArg (fun z => some (Value.int z)) (show (1 : Int32) = f0 q0 q1 q2 w_D from Eq.symm (hf127_0.trans (by unfold f0_127; exact (if_neg hc140).trans ((if_neg hc145).trans (if_neg hc150)))))), N24⟩ (by decide) (by decide)
        by_cases hc119 : (f14Edge q0 q2) = j119_0
        · refine OGoW.st (fun _ k => XS.icmpNo X21.here hx rfl (hb hby at_119) rfl (teq hc119).2 k) ?_
          show OGoW p e below s _ _ _ (T21.setTop (mkF m 122 #[.val (.long q0), .second, .val (.long q1), .second, .val (.long q2), .second, .val (.ref b1), .val (.ref b6), .val (.ref b11), .val (.ref b16), .val (.int j98_0), .unset, .unset] []))
          refine OGoW.st (fun _ k => XS.iconst X21.here hx rfl (hb hby at_122) k) ?_
          show OGoW p e below s _ _ _ (T21.setTop (mkF m 123 #[.val (.long q0), .second, .val (.long q1), .second, .val (.long q2), .second, .val (.ref b1), .val (.ref b6), .val (.ref b11), .val (.ref b16), .val (.int j98_0), .unset, .unset] [(.int (1 : Int32))]))
          refine OGoW.st (fun _ k => XS.goto X21.here hx rfl (pc0 := 123) (pc' := 127) rfl (hb hby at_123) (by decide) (by decide) k) ?_
          show OGoW p e below s _ _ _ (T21.setTop (mkF m 127 #[.val (.long q0), .second, .val (.long q1), .second, .val (.long q2), .second, .val (.ref b1), .val (.ref b6), .val (.ref b11), .val (.ref b16), .val (.int j98_0), .unset, .unset] [(.int (1 : Int32))]))
          exact hj127 (1 : Int32) (hf119_0.trans (by unfold f0_119; exact if_pos hc119))
        · refine OGoW.st (fun _ k => XS.icmpYes X21.here hx rfl (pc0 := 119) (pc' := 126) rfl (hb hby at_119) rfl (feq hc119).2 (by decide) (by decide) k) ?_
          show OGoW p e below s _ _ _ (T21.setTop (mkF m 126 #[.val (.long q0), .second, .val (.long q1), .second, .val (.long q2), .second, .val (.ref b1), .val (.ref b6), .val (.ref b11), .val (.ref b16), .val (.int j98_0), .unset, .unset] []))
          refine OGoW.st (fun _ k => XS.iconst X21.here hx rfl (hb hby at_126) k) ?_
          show OGoW p e below s _ _ _ (T21.setTop (mkF m 127 #[.val (.long q0), .second, .val (.long q1), .second, .val (.long q2), .second, .val (.ref b1), .val (.ref b6), .val (.ref b11), .val (.ref b16), .val (.int j98_0), .unset, .unset] [(.int (0 : Int32))]))
          exact hj127 (0 : Int32) (hf119_0.trans (by unfold f0_119; exact if_neg hc119))
      by_cases hc111 : q2 < q0
      · refine OGoW.st (fun _ k => XS.ifYes X21.here hx rfl (pc0 := 111) (pc' := 118) rfl (hb hby at_111) rfl ((if0 _ _).trans (tlt ((olc_lt _ _).mpr hc111)).1) (by decide) (by decide) k) ?_
        show OGoW p e below s _ _ _ (T21.setTop (mkF m 118 #[.val (.long q0), .second, .val (.long q1), .second, .val (.long q2), .second, .val (.ref b1), .val (.ref b6), .val (.ref b11), .val (.ref b16), .val (.int j98_0), .unset, .unset] [(.int (f14Edge q0 q2))]))
        refine OGoW.st (fun _ k => XS.iconst X21.here hx rfl (hb hby at_118) k) ?_
        show OGoW p e below s _ _ _ (T21.setTop (mkF m 119 #[.val (.long q0), .second, .val (.long q1), .second, .val (.long q2), .second, .val (.ref b1), .val (.ref b6), .val (.ref b11), .val (.ref b16), .val (.int j98_0), .unset, .unset] [(.int (0 : Int32)), (.int (f14Edge q0 q2))]))
        exact hj119 (0 : Int32) (hf98_0.trans (by unfold f0_98; exact if_pos hc111))
      · refine OGoW.st (fun _ k => XS.ifNo X21.here hx rfl (hb hby at_111) rfl ((if0 _ _).trans (flt (fun z => hc111 ((olc_lt _ _).mp z))).1) k) ?_
        show OGoW p e below s _ _ _ (T21.setTop (mkF m 114 #[.val (.long q0), .second, .val (.long q1), .second, .val (.long q2), .second, .val (.ref b1), .val (.ref b6), .val (.ref b11), .val (.ref b16), .val (.int j98_0), .unset, .unset] [(.int (f14Edge q0 q2))]))
        refine OGoW.st (fun _ k => XS.iconst X21.here hx rfl (hb hby at_114) k) ?_
        show OGoW p e below s _ _ _ (T21.setTop (mkF m 115 #[.val (.long q0), .second, .val (.long q1), .second, .val (.long q2), .second, .val (.ref b1), .val (.ref b6), .val (.ref b11), .val (.ref b16), .val (.int j98_0), .unset, .unset] [(.int (1 : Int32)), (.int (f14Edge q0 q2))]))
        refine OGoW.st (fun _ k => XS.goto X21.here hx rfl (pc0 := 115) (pc' := 119) rfl (hb hby at_115) (by decide) (by decide) k) ?_
        show OGoW p e below s _ _ _ (T21.setTop (mkF m 119 #[.val (.long q0), .second, .val (.long q1), .second, .val (.long q2), .second, .val (.ref b1), .val (.ref b6), .val (.ref b11), .val (.ref b16), .val (.int j98_0), .unset, .unset] [(.int (1 : Int32)), (.int (f14Edge q0 q2))]))
        exact hj119 (1 : Int32) (hf98_0.trans (by unfold f0_98; exact if_neg hc111))
    by_cases hc90 : (f14Node q0 q1) = j90_0
    · refine OGoW.st (fun _ k => XS.icmpNo X18.here hx rfl (hb hby at_90) rfl (teq hc90).2 k) ?_
      show OGoW p e below s _ _ _ (T18.setTop (mkF m 93 #[.val (.long q0), .second, .val (.long q1), .second, .val (.long q2), .second, .val (.ref b1), .val (.ref b6), .val (.ref b11), .val (.ref b16), .unset, .unset, .unset] []))
      refine OGoW.st (fun _ k => XS.iconst X18.here hx rfl (hb hby at_93) k) ?_
      show OGoW p e below s _ _ _ (T18.setTop (mkF m 94 #[.val (.long q0), .second, .val (.long q1), .second, .val (.long q2), .second, .val (.ref b1), .val (.ref b6), .val (.ref b11), .val (.ref b16), .unset, .unset, .unset] [(.int (1 : Int32))]))
      refine OGoW.st (fun _ k => XS.goto X18.here hx rfl (pc0 := 94) (pc' := 98) rfl (hb hby at_94) (by decide) (by decide) k) ?_
      show OGoW p e below s _ _ _ (T18.setTop (mkF m 98 #[.val (.long q0), .second, .val (.long q1), .second, .val (.long q2), .second, .val (.ref b1), .val (.ref b6), .val (.ref b11), .val (.ref b16), .unset, .unset, .unset] [(.int (1 : Int32))]))
      exact hj98 (1 : Int32) (hf90_0.trans (by unfold f0_90; exact if_pos hc90))
    · refine OGoW.st (fun _ k => XS.icmpYes X18.here hx rfl (pc0 := 90) (pc' := 97) rfl (hb hby at_90) rfl (feq hc90).2 (by decide) (by decide) k) ?_
      show OGoW p e below s _ _ _ (T18.setTop (mkF m 97 #[.val (.long q0), .second, .val (.long q1), .second, .val (.long q2), .second, .val (.ref b1), .val (.ref b6), .val (.ref b11), .val (.ref b16), .unset, .unset, .unset] []))
      refine OGoW.st (fun _ k => XS.iconst X18.here hx rfl (hb hby at_97) k) ?_
      show OGoW p e below s _ _ _ (T18.setTop (mkF m 98 #[.val (.long q0), .second, .val (.long q1), .second, .val (.long q2), .second, .val (.ref b1), .val (.ref b6), .val (.ref b11), .val (.ref b16), .unset, .unset, .unset] [(.int (0 : Int32))]))
      exact hj98 (0 : Int32) (hf90_0.trans (by unfold f0_90; exact if_neg hc90))
  by_cases hc82 : q1 < q0
  · refine OGoW.st (fun _ k => XS.ifYes X18.here hx rfl (pc0 := 82) (pc' := 89) rfl (hb hby at_82) rfl ((if0 _ _).trans (tlt ((olc_lt _ _).mpr hc82)).1) (by decide) (by decide) k) ?_
    show OGoW p e below s _ _ _ (T18.setTop (mkF m 89 #[.val (.long q0), .second, .val (.long q1), .second, .val (.long q2), .second, .val (.ref b1), .val (.ref b6), .val (.ref b11), .val (.ref b16), .unset, .unset, .unset] [(.int (f14Node q0 q1))]))
    refine OGoW.st (fun _ k => XS.iconst X18.here hx rfl (hb hby at_89) k) ?_
    show OGoW p e below s _ _ _ (T18.setTop (mkF m 90 #[.val (.long q0), .second, .val (.long q1), .second, .val (.long q2), .second, .val (.ref b1), .val (.ref b6), .val (.ref b11), .val (.ref b16), .unset, .unset, .unset] [(.int (0 : Int32)), (.int (f14Node q0 q1))]))
    exact hj90 (0 : Int32) (by unfold f0; exact if_pos hc82)
  · refine OGoW.st (fun _ k => XS.ifNo X18.here hx rfl (hb hby at_82) rfl ((if0 _ _).trans (flt (fun z => hc82 ((olc_lt _ _).mp z))).1) k) ?_
    show OGoW p e below s _ _ _ (T18.setTop (mkF m 85 #[.val (.long q0), .second, .val (.long q1), .second, .val (.long q2), .second, .val (.ref b1), .val (.ref b6), .val (.ref b11), .val (.ref b16), .unset, .unset, .unset] [(.int (f14Node q0 q1))]))
    refine OGoW.st (fun _ k => XS.iconst X18.here hx rfl (hb hby at_85) k) ?_
    show OGoW p e below s _ _ _ (T18.setTop (mkF m 86 #[.val (.long q0), .second, .val (.long q1), .second, .val (.long q2), .second, .val (.ref b1), .val (.ref b6), .val (.ref b11), .val (.ref b16), .unset, .unset, .unset] [(.int (1 : Int32)), (.int (f14Node q0 q1))]))
    refine OGoW.st (fun _ k => XS.goto X18.here hx rfl (pc0 := 86) (pc' := 90) rfl (hb hby at_86) (by decide) (by decide) k) ?_
    show OGoW p e below s _ _ _ (T18.setTop (mkF m 90 #[.val (.long q0), .second, .val (.long q1), .second, .val (.long q2), .second, .val (.ref b1), .val (.ref b6), .val (.ref b11), .val (.ref b16), .unset, .unset, .unset] [(.int (1 : Int32)), (.int (f14Node q0 q1))]))
    exact hj90 (1 : Int32) (by unfold f0; exact if_neg hc82)
theorem own_plain (q0 q1 q2 : Int64) (w : Addr) : f0 q0 q1 q2 w = 1 := by
  have h : ¬ q0 < q0 := by rw [Int64.lt_iff_toInt_lt]; omega
  unfold f0 f0_90 f0_98 f0_119 f0_127 f14Node f14Edge f15
  by_cases a : q1 < q0 <;> by_cases b : q2 < q0 <;> simp [a, b, h]
set_option maxRecDepth 65536 in
set_option maxHeartbeats 40000000 in
theorem comes_1 {Post : Tables → Env → Array Value → State → Outcome → State → Prop} (hpost : ∀ tb e args s v u, (limb_1_1.after args s (.returned v) u = true ∧ limb_1_2.after args s (.returned v) u = true ∧ True) → FramedW s (.returned v) u (Jvm.fieldLocs frame_1_writes args s ++ Jvm.arrayLocs frame_1_arrays args s ++ Jvm.staticLocs frame_1_statics s) 56 4416 → Post tb e args s (.returned v) u) :
    ArmFor flags0 classFile x code maxLocals ret World_1 tables_1 room_1 Calls_1 rest_1 Pre_1 Post := by
  intro l hfl _ _ p e ha hc hk s m args below hf hA hF happ hP
  obtain ⟨hcalls, hrest, hpre⟩ := hP
  obtain ⟨-, -, -, hnamed, -, -, -, hat⟩ := (Spec.applies_iff hf).mp happ
  obtain ⟨hg, hn⟩ := and_e (Cond.before_iff.mp (show (Jvm.Cond.and given_1 narrow_1).before args s = true from hpre))
  obtain ⟨gv1, gv2⟩ := and_e hg
  obtain ⟨gv3, gv4⟩ := and_e gv2
  obtain ⟨gv5, gv6⟩ := and_e gv4
  obtain ⟨w0, w1, w2, rfl⟩ : ∃ w0 w1 w2 : Value, args = #[w0, w1, w2] := by
    have hs : args.size = 3 := by simpa [Cond.value, given_1] using gv1
    obtain ⟨L⟩ := args
    match L, hs with
    | [w0, w1, w2], _ => exact ⟨w0, w1, w2, rfl⟩
  have hw := fun d (hd : d ∈ tables_1) => atoms_spec (ws := Jvm.Cond.code x code maxLocals ret :: tables_1) hat d (List.mem_cons_of_mem _ hd)
  have hfit : Fit s := fun {y c} hc i hi => by
    obtain ⟨ha, rfl⟩ := Array.getElem?_eq_some_iff.mp hc
    have q := List.all_eq_true.mp ((Array.all_eq_true_iff_forall_mem.mp hF) _ (Array.getElem_mem ha)) i (List.mem_range.mpr hi)
    simpa [Array.getElem?_eq_getElem hi] using q
  obtain ⟨i0, ei0⟩ := isL_v gv3
  obtain rfl : w0 = (.long i0) := Option.some.inj ei0
  obtain ⟨i1, ei1⟩ := isL_v gv5
  obtain rfl : w1 = (.long i1) := Option.some.inj ei1
  obtain ⟨i2, ei2⟩ := isL_v gv6
  obtain rfl : w2 = (.long i2) := Option.some.inj ei2
  obtain ⟨hsets, hown0⟩ := atoms_of _ (rest_1_c_eq ▸ (show rest_1_c.before _ s = true from hrest))
  obtain ⟨w_D, ev_D⟩ := exa_v (Cond.before_iff.mp (hsets _ (List.mem_of_getElem? (i := 7) rfl)))
  have S_D : Sta s s.heap "java/util/ArrayList" "DEFAULTCAPACITY_EMPTY_ELEMENTDATA" "[Ljava/lang/Object;" (.ref w_D) := Sta.start ev_D (Or.inr ⟨(hw _ (List.mem_of_getElem? (i := 57) rfl)), hsets _ (List.mem_of_getElem? (i := 2) rfl)⟩)
  have hpl := own_plain i0 i1 i2 w_D
  obtain ⟨n, o, h1, h2, h3, _, L, rfl, ⟨rfl, N⟩, hq⟩ := rm0 l s _ hw tables_1 i0 i1 i2 w_D s.heap s.heap.size (Nat.le_refl _) S_D p e ha hc hk s m _ below hf ((Spec.applies_iff_loose hf).mp happ).1 ⟨rfl, State.Warmed39.refl s, rfl⟩ trivial
  refine ⟨n, _, h1, h2, h3, hpost _ _ _ _ _ _ ⟨Cond.after_iff.mpr rfl, Cond.after_iff.mpr (eq_i res_at (Term.int_eval (1)) (congrArg Value.int hpl)), trivial⟩ ⟨hq.1, hq.2.1, hq.2.2.1, (hq.2.2.2.sift fun y hy => Or.inr (N y hy)).mono (by decide) (by decide)⟩⟩
theorem main_1_1 : Claimed_1_1 := comes_1 fun _ _ _ _ _ _ h hF => ⟨h.1, hF⟩
theorem main_1_2 : Claimed_1_2 := comes_1 fun _ _ _ _ _ _ h hF => ⟨h.2.1, hF⟩
end Jvm.Pilot.@@N@@
namespace Jvm.Pilot.@@N@@
open Jvm Jvm.ClassFile Sem Op Lib Jvm.Free Jvm.Stand Jvm.Pilot.@@N@@.Jvm.D
/-! MADE BY PROGRAM (witnessworld.py) out of the Statement's table words and the real class files: 34 classes; the members and pool entries that the words name. The judged class is class 1, her method 1. -/
namespace start1
open Jvm.ClassFile
def u (s : String) : CpInfo := .utf8 (stringToUtf16 s)
/-- a pool by its gaps: so many unusable entries, then the entry; so many at the end -/
def gap : Nat → List CpInfo → List CpInfo
  | 0, r => r
  | n + 1, r => .unusable :: gap n r
def poolList (es : List (Nat × CpInfo)) (last : Nat) : List CpInfo := es.foldr (fun e r => gap e.1 (e.2 :: r)) (gap last [])
def pool (es : List (Nat × CpInfo)) (last : Nat) : Array CpInfo := ⟨poolList es last⟩
def fileOf (pool : Array CpInfo) (this : Nat) (attrs : Array Attribute := #[]) (ms : Array MethodInfo := #[]) (fl : Nat := 33) (sup : Nat := 0) (ifs : Array Nat := #[]) (fds : Array FieldInfo := #[]) : ClassFile where
  minorVersion := 0
  majorVersion := 65
  constantPool := pool
  accessFlags := fl
  thisClass := this
  superClass := sup
  interfaces := ifs
  fields := fds
  methods := ms
  attributes := attrs
def plain (name : String) (sup : Option ClassId) : Class where
  name := name
  kind := .ordinary
  loader := none
  accessFlags := 33
  super := sup
  interfaces := #[]
  cf := none
  fields := #[]
  methods := #[]
  instanceTypes := #[]
  staticTypes := #[]
  resolved := #[]
  callSites := []
  init := .initialized
  statics := none
  mirror := none

def pool0 : Array CpInfo := pool [(5, u "<init>"), (0, u "()V"), (1, .class_ 10), (1, u "java/lang/Object")] 113

def k0c0 : Code := { maxStack := 0, maxLocals := 1, code := object_method_1_code, exceptionTable := #[], attributes := #[] }
def k0m0 : Method := { name := "<init>", desc := "()V", sig := { parameters := [], returnType := none }, accessFlags := 1, code := some k0c0 }
/-- java/lang/Object -/
def k0 : Class := { plain "java/lang/Object" none with
  accessFlags := 33
  interfaces := #[]
  cf := some (fileOf pool0 8 #[] #[{ accessFlags := 1, nameIndex := 5, descriptorIndex := 6, attributes := #[] }] 33 0 #[] #[])
  fields := #[]
  methods := #[k0m0]
  instanceTypes := #[]
  staticTypes := #[]
  resolved := Array.replicate 124 none
  statics := none }

def pool1 : Array CpInfo := pool [(2, .class_ 4), (1, u "java/lang/Object"), (0, u "<init>"), (0, u "()V"), (0, .class_ 8), (0, u "com/example/pushout_bench/pushoutbench/graph/Node"), (0, .string 10), (0, u "a"), (0, .string 12), (0, u "t"), (0, .methodref 7 14), (0, .nameAndType 5 15), (0, u "(Ljava/lang/String;Ljava/lang/String;)V"), (0, .fieldref 7 17), (0, .nameAndType 18 19), (0, u "serial"), (0, u "J"), (0, .class_ 21), (0, u "com/example/pushout_bench/pushoutbench/graph/Edge"), (0, .string 23), (0, u "b"), (0, .methodref 20 25), (0, .nameAndType 5 26), (0, u "(Ljava/lang/String;Ljava/lang/String;Lcom/example/pushout_bench/pushoutbench/graph/Node;Lcom/example/pushout_bench/pushoutbench/graph/Node;)V"), (0, .fieldref 20 17), (0, .string 29), (0, u "c"), (0, .class_ 31), (0, u "com/example/pushout_bench/pushoutbench/graph/Changes"), (0, .methodref 30 33), (0, .nameAndType 5 34), (0, u "(J)V"), (0, .methodref 30 36), (0, .nameAndType 37 38), (0, u "isNew"), (0, u "(Lcom/example/pushout_bench/pushoutbench/graph/Element;)Z"), (0, .class_ 40), (0, u "com/example/pushout_bench/pushoutbench/graph/ChangesIsNewPinLaw"), (2, u "law"), (0, u "(JJJ)Z")] 3

def k1m0 : Method := { name := "<init>", desc := "()V", sig := { parameters := [], returnType := none }, accessFlags := 1, code := none }
def k1c1 : Code := { maxStack := 6, maxLocals := 13, code := code, exceptionTable := #[], attributes := #[] }
def k1m1 : Method := { name := "law", desc := "(JJJ)Z", sig := { parameters := [.long, .long, .long], returnType := some .boolean }, accessFlags := 9, code := some k1c1 }
/-- com/example/pushout_bench/pushoutbench/graph/ChangesIsNewPinLaw -/
def k1 : Class := { plain "com/example/pushout_bench/pushoutbench/graph/ChangesIsNewPinLaw" (some 0) with
  accessFlags := 49
  interfaces := #[]
  cf := some (fileOf pool1 39 #[] #[{ accessFlags := 1, nameIndex := 5, descriptorIndex := 6, attributes := #[] }, { accessFlags := 9, nameIndex := 43, descriptorIndex := 44, attributes := #[] }] 49 2 #[] #[])
  fields := #[]
  methods := #[k1m0, k1m1]
  instanceTypes := #[]
  staticTypes := #[]
  resolved := Array.replicate 48 none
  statics := none }

def pool2 : Array CpInfo := pool [(1, .methodref 2 3), (0, .class_ 4), (0, .nameAndType 5 6), (0, u "java/lang/Object"), (0, u "<init>"), (0, u "()V"), (0, .class_ 8), (0, u "java/util/LinkedHashMap"), (0, .methodref 7 3), (0, .fieldref 11 12), (0, .class_ 13), (0, .nameAndType 14 15), (0, u "com/example/pushout_bench/pushoutbench/graph/Element"), (0, u "attributes"), (0, u "Ljava/util/Map;"), (0, .fieldref 11 17), (0, .nameAndType 18 19), (0, u "id"), (0, u "Ljava/lang/String;"), (0, .fieldref 11 21), (0, .nameAndType 22 19), (0, u "type"), (0, .fieldref 11 24), (0, .nameAndType 25 26), (0, u "serial"), (0, u "J"), (21, u "(Ljava/lang/String;Ljava/lang/String;)V"), (3, u "()J")] 15

def k2c0 : Code := { maxStack := 3, maxLocals := 3, code := prog_60_method_1_code, exceptionTable := #[], attributes := #[] }
def k2m0 : Method := { name := "<init>", desc := "(Ljava/lang/String;Ljava/lang/String;)V", sig := { parameters := [(.object "java/lang/String"), (.object "java/lang/String")], returnType := none }, accessFlags := 0, code := some k2c0 }
def k2c1 : Code := { maxStack := 2, maxLocals := 1, code := prog_60_method_3_code, exceptionTable := #[], attributes := #[] }
def k2m1 : Method := { name := "serial", desc := "()J", sig := { parameters := [], returnType := some .long }, accessFlags := 17, code := some k2c1 }
/-- com/example/pushout_bench/pushoutbench/graph/Element -/
def k2 : Class := { plain "com/example/pushout_bench/pushoutbench/graph/Element" (some 0) with
  accessFlags := 1057
  interfaces := #[]
  cf := some (fileOf pool2 11 #[] #[{ accessFlags := 0, nameIndex := 5, descriptorIndex := 48, attributes := #[] }, { accessFlags := 17, nameIndex := 25, descriptorIndex := 52, attributes := #[] }] 1057 2 #[] #[{ accessFlags := 18, nameIndex := 18, descriptorIndex := 19, attributes := #[] }, { accessFlags := 18, nameIndex := 22, descriptorIndex := 19, attributes := #[] }, { accessFlags := 18, nameIndex := 14, descriptorIndex := 15, attributes := #[] }, { accessFlags := 0, nameIndex := 25, descriptorIndex := 26, attributes := #[] }])
  fields := #[{ name := "id", type := (.object "java/lang/String"), accessFlags := 18, slot := 0, constantValue := 0 }, { name := "type", type := (.object "java/lang/String"), accessFlags := 18, slot := 1, constantValue := 0 }, { name := "attributes", type := (.object "java/util/Map"), accessFlags := 18, slot := 2, constantValue := 0 }, { name := "serial", type := .long, accessFlags := 0, slot := 3, constantValue := 0 }]
  methods := #[k2m0, k2m1]
  instanceTypes := #[(.object "java/lang/String"), (.object "java/lang/String"), (.object "java/util/Map"), .long]
  staticTypes := #[]
  resolved := Array.replicate 68 none
  statics := none }

def pool3 : Array CpInfo := pool [(1, .methodref 2 3), (0, .class_ 4), (0, .nameAndType 5 6), (0, u "com/example/pushout_bench/pushoutbench/graph/Element"), (0, u "<init>"), (0, u "(Ljava/lang/String;Ljava/lang/String;)V"), (0, .class_ 8), (0, u "java/util/ArrayList"), (0, .methodref 7 10), (0, .nameAndType 5 11), (0, u "()V"), (0, .fieldref 13 14), (0, .class_ 15), (0, .nameAndType 16 17), (0, u "com/example/pushout_bench/pushoutbench/graph/Node"), (0, u "outgoing"), (0, u "Ljava/util/List;"), (0, .fieldref 13 19), (0, .nameAndType 20 17), (0, u "incoming")] 33

def k3c0 : Code := { maxStack := 3, maxLocals := 3, code := prog_66_method_1_code, exceptionTable := #[], attributes := #[] }
def k3m0 : Method := { name := "<init>", desc := "(Ljava/lang/String;Ljava/lang/String;)V", sig := { parameters := [(.object "java/lang/String"), (.object "java/lang/String")], returnType := none }, accessFlags := 0, code := some k3c0 }
/-- com/example/pushout_bench/pushoutbench/graph/Node -/
def k3 : Class := { plain "com/example/pushout_bench/pushoutbench/graph/Node" (some 2) with
  accessFlags := 49
  interfaces := #[]
  cf := some (fileOf pool3 13 #[] #[{ accessFlags := 0, nameIndex := 5, descriptorIndex := 6, attributes := #[] }] 49 2 #[] #[{ accessFlags := 16, nameIndex := 16, descriptorIndex := 17, attributes := #[] }, { accessFlags := 16, nameIndex := 20, descriptorIndex := 17, attributes := #[] }])
  fields := #[{ name := "outgoing", type := (.object "java/util/List"), accessFlags := 16, slot := 4, constantValue := 0 }, { name := "incoming", type := (.object "java/util/List"), accessFlags := 16, slot := 5, constantValue := 0 }]
  methods := #[k3m0]
  instanceTypes := #[(.object "java/lang/String"), (.object "java/lang/String"), (.object "java/util/Map"), .long, (.object "java/util/List"), (.object "java/util/List")]
  staticTypes := #[]
  resolved := Array.replicate 54 none
  statics := none }

def pool4 : Array CpInfo := pool [(1, .class_ 2), (0, u "java/io/Serializable"), (0, .class_ 4), (0, u "java/lang/Object")] 2

/-- java/io/Serializable -/
def k4 : Class := { plain "java/io/Serializable" (some 0) with
  accessFlags := 1537
  interfaces := #[]
  cf := some (fileOf pool4 1 #[] #[] 1537 3 #[] #[])
  fields := #[]
  methods := #[]
  instanceTypes := #[]
  staticTypes := #[]
  resolved := Array.replicate 7 none
  statics := none }

def pool5 : Array CpInfo := pool [(1, .class_ 2), (0, u "java/lang/Comparable"), (0, .class_ 4), (0, u "java/lang/Object")] 7

/-- java/lang/Comparable -/
def k5 : Class := { plain "java/lang/Comparable" (some 0) with
  accessFlags := 1537
  interfaces := #[]
  cf := some (fileOf pool5 1 #[] #[] 1537 3 #[] #[])
  fields := #[]
  methods := #[]
  instanceTypes := #[]
  staticTypes := #[]
  resolved := Array.replicate 12 none
  statics := none }

def pool6 : Array CpInfo := pool [(2, .class_ 4), (1, u "java/lang/CharSequence"), (42, .class_ 48), (0, u "java/lang/CharSequence$1CodePointIterator"), (10, .class_ 60), (0, u "java/lang/CharSequence$1CharIterator"), (5, .class_ 67), (0, u "java/lang/Object")] 63

/-- java/lang/CharSequence -/
def k6 : Class := { plain "java/lang/CharSequence" (some 0) with
  accessFlags := 1537
  interfaces := #[]
  cf := some (fileOf pool6 2 #[.nestMembers #[47, 59]] #[] 1537 66 #[] #[])
  fields := #[]
  methods := #[]
  instanceTypes := #[]
  staticTypes := #[]
  resolved := Array.replicate 131 none
  statics := none }

def pool7 : Array CpInfo := pool [(1, .class_ 2), (0, u "java/lang/constant/Constable"), (0, .class_ 4), (0, u "java/lang/Object")] 6

/-- java/lang/constant/Constable -/
def k7 : Class := { plain "java/lang/constant/Constable" (some 0) with
  accessFlags := 1537
  interfaces := #[]
  cf := some (fileOf pool7 1 #[] #[] 1537 3 #[] #[])
  fields := #[]
  methods := #[]
  instanceTypes := #[]
  staticTypes := #[]
  resolved := Array.replicate 11 none
  statics := none }

def pool8 : Array CpInfo := pool [(1, .class_ 2), (0, u "java/lang/constant/ConstantDesc"), (0, .class_ 4), (0, u "java/lang/Object")] 32

/-- java/lang/constant/ConstantDesc -/
def k8 : Class := { plain "java/lang/constant/ConstantDesc" (some 0) with
  accessFlags := 1537
  interfaces := #[]
  cf := some (fileOf pool8 1 #[] #[] 1537 3 #[] #[])
  fields := #[]
  methods := #[]
  instanceTypes := #[]
  staticTypes := #[]
  resolved := Array.replicate 37 none
  statics := none }

def pool9 : Array CpInfo := pool [(2, .class_ 4), (1, u "java/lang/Object"), (0, u "<init>"), (0, u "()V"), (3, .class_ 12), (1, u "java/lang/String"), (0, u "value"), (0, u "[B"), (2, u "coder"), (0, u "B"), (2, u "hash"), (0, u "I"), (2, u "hashIsZero"), (0, u "Z"), (13, u "COMPACT_STRINGS"), (534, .class_ 576), (0, u "java/lang/CharSequence"), (22, u "CASE_INSENSITIVE_ORDER"), (0, u "Ljava/util/Comparator;"), (500, u "serialPersistentFields"), (0, u "[Ljava/io/ObjectStreamField;"), (0, .class_ 1104), (0, u "java/lang/String$CaseInsensitiveComparator"), (1, .class_ 1107), (0, u "java/io/Serializable"), (0, .class_ 1109), (0, u "java/lang/Comparable"), (0, .class_ 1111), (0, u "java/lang/constant/Constable"), (0, .class_ 1113), (0, u "java/lang/constant/ConstantDesc"), (2, u "serialVersionUID"), (0, u "J"), (3, u "REPL"), (0, u "C"), (2, u "LATIN1"), (1, u "UTF16")] 323

def k9m0 : Method := { name := "<init>", desc := "()V", sig := { parameters := [], returnType := none }, accessFlags := 1, code := none }
/-- java/lang/String -/
def k9 : Class := { plain "java/lang/String" (some 0) with
  accessFlags := 49
  interfaces := #[4, 5, 6, 7, 8]
  cf := some (fileOf pool9 10 #[.nestMembers #[1103]] #[{ accessFlags := 1, nameIndex := 5, descriptorIndex := 6, attributes := #[] }] 49 2 #[1106, 1108, 575, 1110, 1112] #[{ accessFlags := 18, nameIndex := 13, descriptorIndex := 14, attributes := #[] }, { accessFlags := 18, nameIndex := 17, descriptorIndex := 18, attributes := #[] }, { accessFlags := 2, nameIndex := 21, descriptorIndex := 22, attributes := #[] }, { accessFlags := 2, nameIndex := 25, descriptorIndex := 26, attributes := #[] }, { accessFlags := 26, nameIndex := 1116, descriptorIndex := 1117, attributes := #[] }, { accessFlags := 24, nameIndex := 40, descriptorIndex := 26, attributes := #[] }, { accessFlags := 26, nameIndex := 1101, descriptorIndex := 1102, attributes := #[] }, { accessFlags := 26, nameIndex := 1121, descriptorIndex := 1122, attributes := #[] }, { accessFlags := 25, nameIndex := 599, descriptorIndex := 600, attributes := #[] }, { accessFlags := 24, nameIndex := 1125, descriptorIndex := 18, attributes := #[] }, { accessFlags := 24, nameIndex := 1127, descriptorIndex := 18, attributes := #[] }])
  fields := #[{ name := "value", type := (.array .byte), accessFlags := 18, slot := 0, constantValue := 0 }, { name := "coder", type := .byte, accessFlags := 18, slot := 1, constantValue := 0 }, { name := "hash", type := .int, accessFlags := 2, slot := 2, constantValue := 0 }, { name := "hashIsZero", type := .boolean, accessFlags := 2, slot := 3, constantValue := 0 }, { name := "serialVersionUID", type := .long, accessFlags := 26, slot := 0, constantValue := 0 }, { name := "COMPACT_STRINGS", type := .boolean, accessFlags := 24, slot := 1, constantValue := 0 }, { name := "serialPersistentFields", type := (.array (.object "java/io/ObjectStreamField")), accessFlags := 26, slot := 2, constantValue := 0 }, { name := "REPL", type := .char, accessFlags := 26, slot := 3, constantValue := 0 }, { name := "CASE_INSENSITIVE_ORDER", type := (.object "java/util/Comparator"), accessFlags := 25, slot := 4, constantValue := 0 }, { name := "LATIN1", type := .byte, accessFlags := 24, slot := 5, constantValue := 0 }, { name := "UTF16", type := .byte, accessFlags := 24, slot := 6, constantValue := 0 }]
  methods := #[k9m0]
  instanceTypes := #[(.array .byte), .byte, .int, .boolean]
  staticTypes := #[.long, .boolean, (.array (.object "java/io/ObjectStreamField")), .char, (.object "java/util/Comparator"), .byte, .byte]
  resolved := Array.replicate 1451 none
  statics := none }

def pool10 : Array CpInfo := pool [(2, .class_ 4), (1, u "java/util/Map"), (31, .class_ 37), (0, u "java/util/Map$Entry"), (55, .class_ 94), (0, u "java/lang/Object")] 168

/-- java/util/Map -/
def k10 : Class := { plain "java/util/Map" (some 0) with
  accessFlags := 1537
  interfaces := #[]
  cf := some (fileOf pool10 2 #[.nestMembers #[36]] #[] 1537 93 #[] #[])
  fields := #[]
  methods := #[]
  instanceTypes := #[]
  staticTypes := #[]
  resolved := Array.replicate 263 none
  statics := none }

def pool11 : Array CpInfo := pool [(1, .methodref 2 3), (0, .class_ 4), (0, .nameAndType 5 6), (0, u "java/lang/Object"), (0, u "<init>"), (0, u "()V"), (1, .class_ 10), (1, u "java/util/AbstractMap"), (42, .class_ 54), (0, u "java/util/Map"), (9, u "keySet"), (0, u "Ljava/util/Set;"), (0, .class_ 67), (0, u "java/util/AbstractMap$1"), (5, u "values"), (0, u "Ljava/util/Collection;"), (0, .class_ 76), (0, u "java/util/AbstractMap$2"), (104, .class_ 182), (0, u "java/util/AbstractMap$ViewCollection"), (0, .class_ 184), (0, u "java/util/AbstractMap$SimpleImmutableEntry"), (0, .class_ 186), (0, u "java/util/AbstractMap$SimpleEntry"), (0, .class_ 188), (0, u "java/util/AbstractMap$2$1"), (0, .class_ 190), (0, u "java/util/AbstractMap$1$1")] 5

def k11c0 : Code := { maxStack := 1, maxLocals := 1, code := jdk_71_method_1_code, exceptionTable := #[], attributes := #[] }
def k11m0 : Method := { name := "<init>", desc := "()V", sig := { parameters := [], returnType := none }, accessFlags := 4, code := some k11c0 }
/-- java/util/AbstractMap -/
def k11 : Class := { plain "java/util/AbstractMap" (some 0) with
  accessFlags := 1057
  interfaces := #[10]
  cf := some (fileOf pool11 8 #[.nestMembers #[181, 183, 185, 75, 187, 66, 189]] #[{ accessFlags := 4, nameIndex := 5, descriptorIndex := 6, attributes := #[] }] 1057 2 #[53] #[{ accessFlags := 128, nameIndex := 64, descriptorIndex := 65, attributes := #[] }, { accessFlags := 128, nameIndex := 73, descriptorIndex := 74, attributes := #[] }])
  fields := #[{ name := "keySet", type := (.object "java/util/Set"), accessFlags := 128, slot := 0, constantValue := 0 }, { name := "values", type := (.object "java/util/Collection"), accessFlags := 128, slot := 1, constantValue := 0 }]
  methods := #[k11m0]
  instanceTypes := #[(.object "java/util/Set"), (.object "java/util/Collection")]
  staticTypes := #[]
  resolved := Array.replicate 196 none
  statics := none }

def pool12 : Array CpInfo := pool [(1, .class_ 2), (0, u "java/lang/Cloneable"), (0, .class_ 4), (0, u "java/lang/Object")] 2

/-- java/lang/Cloneable -/
def k12 : Class := { plain "java/lang/Cloneable" (some 0) with
  accessFlags := 1537
  interfaces := #[]
  cf := some (fileOf pool12 1 #[] #[] 1537 3 #[] #[])
  fields := #[]
  methods := #[]
  instanceTypes := #[]
  staticTypes := #[]
  resolved := Array.replicate 7 none
  statics := none }

def pool13 : Array CpInfo := pool [(40, .class_ 41), (0, u "java/util/HashMap"), (1, .methodref 44 45), (0, .class_ 46), (0, .nameAndType 47 48), (0, u "java/util/AbstractMap"), (0, u "<init>"), (0, u "()V"), (32, .fieldref 40 82), (0, .nameAndType 83 84), (0, u "loadFactor"), (0, u "F"), (5, u "threshold"), (0, u "I"), (0, .float 1061158912), (8, .class_ 103), (1, u "java/util/Map"), (0, u "size"), (2, u "table"), (0, u "[Ljava/util/HashMap$Node;"), (14, u "entrySet"), (39, .class_ 165), (1, u "java/util/HashMap$Node"), (14, .class_ 181), (0, u "java/util/HashMap$TreeNode"), (22, u "modCount"), (37, u "Ljava/util/Set;"), (0, .class_ 244), (0, u "java/util/HashMap$KeySet"), (18, .class_ 264), (0, u "java/util/HashMap$Values"), (3, .class_ 269), (0, u "java/util/HashMap$EntrySet"), (76, .class_ 348), (1, u "java/util/HashMap$UnsafeHolder"), (43, .class_ 393), (0, u "java/lang/Cloneable"), (0, .class_ 395), (0, u "java/io/Serializable"), (0, u "serialVersionUID"), (0, u "J"), (3, u "DEFAULT_INITIAL_CAPACITY"), (1, u "MAXIMUM_CAPACITY"), (0, u "DEFAULT_LOAD_FACTOR"), (0, u "TREEIFY_THRESHOLD"), (1, u "UNTREEIFY_THRESHOLD"), (1, u "MIN_TREEIFY_CAPACITY"), (186, .class_ 597), (0, u "java/util/HashMap$EntrySpliterator"), (0, .class_ 599), (0, u "java/util/HashMap$ValueSpliterator"), (0, .class_ 601), (0, u "java/util/HashMap$KeySpliterator"), (0, .class_ 603), (0, u "java/util/HashMap$HashMapSpliterator"), (0, .class_ 605), (0, u "java/util/HashMap$EntryIterator"), (0, .class_ 607), (0, u "java/util/HashMap$ValueIterator"), (0, .class_ 609), (0, u "java/util/HashMap$KeyIterator"), (0, .class_ 611), (0, u "java/util/HashMap$HashIterator")] 17

def k13c0 : Code := { maxStack := 2, maxLocals := 1, code := jdk_69_method_7_code, exceptionTable := #[], attributes := #[] }
def k13m0 : Method := { name := "<init>", desc := "()V", sig := { parameters := [], returnType := none }, accessFlags := 1, code := some k13c0 }
/-- java/util/HashMap -/
def k13 : Class := { plain "java/util/HashMap" (some 11) with
  accessFlags := 33
  interfaces := #[10, 12, 4]
  cf := some (fileOf pool13 40 #[.nestMembers #[180, 596, 598, 600, 602, 604, 606, 608, 610, 346, 268, 263, 243, 163]] #[{ accessFlags := 1, nameIndex := 47, descriptorIndex := 48, attributes := #[] }] 33 44 #[101, 392, 394] #[{ accessFlags := 26, nameIndex := 396, descriptorIndex := 397, attributes := #[] }, { accessFlags := 24, nameIndex := 401, descriptorIndex := 91, attributes := #[] }, { accessFlags := 24, nameIndex := 403, descriptorIndex := 91, attributes := #[] }, { accessFlags := 24, nameIndex := 404, descriptorIndex := 84, attributes := #[] }, { accessFlags := 24, nameIndex := 405, descriptorIndex := 91, attributes := #[] }, { accessFlags := 24, nameIndex := 407, descriptorIndex := 91, attributes := #[] }, { accessFlags := 24, nameIndex := 409, descriptorIndex := 91, attributes := #[] }, { accessFlags := 128, nameIndex := 107, descriptorIndex := 108, attributes := #[] }, { accessFlags := 128, nameIndex := 123, descriptorIndex := 242, attributes := #[] }, { accessFlags := 128, nameIndex := 104, descriptorIndex := 91, attributes := #[] }, { accessFlags := 128, nameIndex := 204, descriptorIndex := 91, attributes := #[] }, { accessFlags := 0, nameIndex := 90, descriptorIndex := 91, attributes := #[] }, { accessFlags := 16, nameIndex := 83, descriptorIndex := 84, attributes := #[] }])
  fields := #[{ name := "serialVersionUID", type := .long, accessFlags := 26, slot := 0, constantValue := 0 }, { name := "DEFAULT_INITIAL_CAPACITY", type := .int, accessFlags := 24, slot := 1, constantValue := 0 }, { name := "MAXIMUM_CAPACITY", type := .int, accessFlags := 24, slot := 2, constantValue := 0 }, { name := "DEFAULT_LOAD_FACTOR", type := .float, accessFlags := 24, slot := 3, constantValue := 0 }, { name := "TREEIFY_THRESHOLD", type := .int, accessFlags := 24, slot := 4, constantValue := 0 }, { name := "UNTREEIFY_THRESHOLD", type := .int, accessFlags := 24, slot := 5, constantValue := 0 }, { name := "MIN_TREEIFY_CAPACITY", type := .int, accessFlags := 24, slot := 6, constantValue := 0 }, { name := "table", type := (.array (.object "java/util/HashMap$Node")), accessFlags := 128, slot := 2, constantValue := 0 }, { name := "entrySet", type := (.object "java/util/Set"), accessFlags := 128, slot := 3, constantValue := 0 }, { name := "size", type := .int, accessFlags := 128, slot := 4, constantValue := 0 }, { name := "modCount", type := .int, accessFlags := 128, slot := 5, constantValue := 0 }, { name := "threshold", type := .int, accessFlags := 0, slot := 6, constantValue := 0 }, { name := "loadFactor", type := .float, accessFlags := 16, slot := 7, constantValue := 0 }]
  methods := #[k13m0]
  instanceTypes := #[(.object "java/util/Set"), (.object "java/util/Collection"), (.array (.object "java/util/HashMap$Node")), (.object "java/util/Set"), .int, .int, .int, .float]
  staticTypes := #[.long, .int, .int, .float, .int, .int, .int]
  resolved := Array.replicate 629 none
  statics := none }

def pool14 : Array CpInfo := pool [(2, .class_ 4), (1, u "java/util/SequencedMap"), (38, .class_ 44), (0, u "java/util/SequencedMap$1SeqKeySet"), (3, .class_ 49), (0, u "java/util/SequencedMap$1SeqValues"), (1, .class_ 52), (0, u "java/util/SequencedMap$1SeqEntrySet"), (1, .class_ 55), (0, u "java/lang/Object"), (0, .class_ 57), (0, u "java/util/Map")] 48

/-- java/util/SequencedMap -/
def k14 : Class := { plain "java/util/SequencedMap" (some 0) with
  accessFlags := 1537
  interfaces := #[10]
  cf := some (fileOf pool14 2 #[.nestMembers #[51, 48, 43]] #[] 1537 54 #[56] #[])
  fields := #[]
  methods := #[]
  instanceTypes := #[]
  staticTypes := #[]
  resolved := Array.replicate 106 none
  statics := none }

def pool15 : Array CpInfo := pool [(1, .fieldref 2 3), (0, .class_ 4), (0, .nameAndType 5 6), (0, u "java/util/LinkedHashMap"), (0, u "putMode"), (0, u "I"), (2, u "head"), (0, u "Ljava/util/LinkedHashMap$Entry;"), (2, u "tail"), (1, .class_ 17), (1, u "java/util/LinkedHashMap$Entry"), (5, .class_ 25), (1, u "java/util/HashMap"), (1, u "()V"), (2, u "<init>"), (33, .fieldref 2 65), (0, .nameAndType 66 67), (0, u "accessOrder"), (0, u "Z"), (19, .methodref 23 88), (0, .nameAndType 30 27), (32, .class_ 122), (0, u "java/util/LinkedHashMap$LinkedKeySet"), (20, .class_ 144), (0, u "java/util/LinkedHashMap$LinkedValues"), (9, .class_ 155), (0, u "java/util/LinkedHashMap$LinkedEntrySet"), (44, .class_ 201), (0, u "java/util/LinkedHashMap$ReversedLinkedHashMapView"), (3, .class_ 206), (0, u "java/util/SequencedMap"), (0, u "serialVersionUID"), (0, u "J"), (5, u "PUT_NORM"), (1, u "PUT_FIRST"), (1, u "PUT_LAST"), (143, .class_ 363), (0, u "java/util/LinkedHashMap$LinkedEntryIterator"), (0, .class_ 365), (0, u "java/util/LinkedHashMap$LinkedValueIterator"), (0, .class_ 367), (0, u "java/util/LinkedHashMap$LinkedKeyIterator"), (0, .class_ 369), (0, u "java/util/LinkedHashMap$LinkedHashIterator")] 16

def k15c0 : Code := { maxStack := 2, maxLocals := 1, code := jdk_94_method_16_code, exceptionTable := #[], attributes := #[] }
def k15m0 : Method := { name := "<init>", desc := "()V", sig := { parameters := [], returnType := none }, accessFlags := 1, code := some k15c0 }
/-- java/util/LinkedHashMap -/
def k15 : Class := { plain "java/util/LinkedHashMap" (some 13) with
  accessFlags := 33
  interfaces := #[14]
  cf := some (fileOf pool15 2 #[.nestMembers #[200, 362, 364, 366, 368, 154, 143, 121, 15]] #[{ accessFlags := 1, nameIndex := 30, descriptorIndex := 27, attributes := #[] }] 33 23 #[205] #[{ accessFlags := 26, nameIndex := 207, descriptorIndex := 208, attributes := #[] }, { accessFlags := 128, nameIndex := 9, descriptorIndex := 10, attributes := #[] }, { accessFlags := 128, nameIndex := 13, descriptorIndex := 10, attributes := #[] }, { accessFlags := 16, nameIndex := 66, descriptorIndex := 67, attributes := #[] }, { accessFlags := 24, nameIndex := 214, descriptorIndex := 6, attributes := #[] }, { accessFlags := 24, nameIndex := 216, descriptorIndex := 6, attributes := #[] }, { accessFlags := 24, nameIndex := 218, descriptorIndex := 6, attributes := #[] }, { accessFlags := 128, nameIndex := 5, descriptorIndex := 6, attributes := #[] }])
  fields := #[{ name := "serialVersionUID", type := .long, accessFlags := 26, slot := 0, constantValue := 0 }, { name := "head", type := (.object "java/util/LinkedHashMap$Entry"), accessFlags := 128, slot := 8, constantValue := 0 }, { name := "tail", type := (.object "java/util/LinkedHashMap$Entry"), accessFlags := 128, slot := 9, constantValue := 0 }, { name := "accessOrder", type := .boolean, accessFlags := 16, slot := 10, constantValue := 0 }, { name := "PUT_NORM", type := .int, accessFlags := 24, slot := 1, constantValue := 0 }, { name := "PUT_FIRST", type := .int, accessFlags := 24, slot := 2, constantValue := 0 }, { name := "PUT_LAST", type := .int, accessFlags := 24, slot := 3, constantValue := 0 }, { name := "putMode", type := .int, accessFlags := 128, slot := 11, constantValue := 0 }]
  methods := #[k15m0]
  instanceTypes := #[(.object "java/util/Set"), (.object "java/util/Collection"), (.array (.object "java/util/HashMap$Node")), (.object "java/util/Set"), .int, .int, .int, .float, (.object "java/util/LinkedHashMap$Entry"), (.object "java/util/LinkedHashMap$Entry"), .boolean, .int]
  staticTypes := #[.long, .int, .int, .int]
  resolved := Array.replicate 386 none
  statics := none }

def pool16 : Array CpInfo := pool [(8, .class_ 10), (1, u "java/lang/Iterable"), (24, .class_ 36), (0, u "java/lang/Object")] 25

/-- java/lang/Iterable -/
def k16 : Class := { plain "java/lang/Iterable" (some 0) with
  accessFlags := 1537
  interfaces := #[]
  cf := some (fileOf pool16 8 #[] #[] 1537 35 #[] #[])
  fields := #[]
  methods := #[]
  instanceTypes := #[]
  staticTypes := #[]
  resolved := Array.replicate 62 none
  statics := none }

def pool17 : Array CpInfo := pool [(10, .class_ 12), (1, u "java/util/Collection"), (47, .class_ 61), (0, u "java/lang/Object"), (0, .class_ 63), (0, u "java/lang/Iterable")] 51

/-- java/util/Collection -/
def k17 : Class := { plain "java/util/Collection" (some 0) with
  accessFlags := 1537
  interfaces := #[16]
  cf := some (fileOf pool17 10 #[] #[] 1537 60 #[62] #[])
  fields := #[]
  methods := #[]
  instanceTypes := #[]
  staticTypes := #[]
  resolved := Array.replicate 115 none
  statics := none }

def pool18 : Array CpInfo := pool [(1, .methodref 2 3), (0, .class_ 4), (0, .nameAndType 5 6), (0, u "java/lang/Object"), (0, u "<init>"), (0, u "()V"), (1, .class_ 10), (1, u "java/util/AbstractCollection"), (66, .class_ 78), (0, u "java/util/Collection")] 81

def k18c0 : Code := { maxStack := 1, maxLocals := 1, code := jdk_22_method_1_code, exceptionTable := #[], attributes := #[] }
def k18m0 : Method := { name := "<init>", desc := "()V", sig := { parameters := [], returnType := none }, accessFlags := 4, code := some k18c0 }
/-- java/util/AbstractCollection -/
def k18 : Class := { plain "java/util/AbstractCollection" (some 0) with
  accessFlags := 1057
  interfaces := #[17]
  cf := some (fileOf pool18 8 #[] #[{ accessFlags := 4, nameIndex := 5, descriptorIndex := 6, attributes := #[] }] 1057 2 #[77] #[])
  fields := #[]
  methods := #[k18m0]
  instanceTypes := #[]
  staticTypes := #[]
  resolved := Array.replicate 160 none
  statics := none }

def pool19 : Array CpInfo := pool [(8, .class_ 10), (1, u "java/util/SequencedCollection"), (15, .class_ 27), (0, u "java/lang/Object"), (0, .class_ 29), (0, u "java/util/Collection")] 27

/-- java/util/SequencedCollection -/
def k19 : Class := { plain "java/util/SequencedCollection" (some 0) with
  accessFlags := 1537
  interfaces := #[17]
  cf := some (fileOf pool19 8 #[] #[] 1537 26 #[28] #[])
  fields := #[]
  methods := #[]
  instanceTypes := #[]
  staticTypes := #[]
  resolved := Array.replicate 57 none
  statics := none }

def pool20 : Array CpInfo := pool [(8, .class_ 10), (1, u "java/util/List"), (92, .class_ 104), (0, u "java/lang/Object"), (15, .class_ 121), (0, u "java/util/SequencedCollection")] 129

/-- java/util/List -/
def k20 : Class := { plain "java/util/List" (some 0) with
  accessFlags := 1537
  interfaces := #[19]
  cf := some (fileOf pool20 8 #[] #[] 1537 103 #[120] #[])
  fields := #[]
  methods := #[]
  instanceTypes := #[]
  staticTypes := #[]
  resolved := Array.replicate 251 none
  statics := none }

def pool21 : Array CpInfo := pool [(1, .methodref 2 3), (0, .class_ 4), (0, .nameAndType 5 6), (0, u "java/util/AbstractCollection"), (0, u "<init>"), (0, u "()V"), (0, .fieldref 8 9), (0, .class_ 10), (0, .nameAndType 11 12), (0, u "java/util/AbstractList"), (0, u "modCount"), (0, u "I"), (64, .class_ 78), (0, u "java/util/AbstractList$Itr"), (3, .class_ 83), (0, u "java/util/AbstractList$ListItr"), (9, .class_ 94), (0, u "java/util/AbstractList$RandomAccessSubList"), (3, .class_ 99), (0, u "java/util/AbstractList$SubList"), (33, .class_ 134), (0, u "java/util/List"), (73, .class_ 209), (0, u "java/util/AbstractList$SubList$1"), (0, .class_ 211), (0, u "java/util/AbstractList$RandomAccessSpliterator")] 6

def k21c0 : Code := { maxStack := 2, maxLocals := 1, code := jdk_39_method_1_code, exceptionTable := #[], attributes := #[] }
def k21m0 : Method := { name := "<init>", desc := "()V", sig := { parameters := [], returnType := none }, accessFlags := 4, code := some k21c0 }
/-- java/util/AbstractList -/
def k21 : Class := { plain "java/util/AbstractList" (some 18) with
  accessFlags := 1057
  interfaces := #[20]
  cf := some (fileOf pool21 8 #[.nestMembers #[93, 98, 208, 210, 82, 77]] #[{ accessFlags := 4, nameIndex := 5, descriptorIndex := 6, attributes := #[] }] 1057 2 #[133] #[{ accessFlags := 132, nameIndex := 11, descriptorIndex := 12, attributes := #[] }])
  fields := #[{ name := "modCount", type := .int, accessFlags := 132, slot := 0, constantValue := 0 }]
  methods := #[k21m0]
  instanceTypes := #[.int]
  staticTypes := #[]
  resolved := Array.replicate 218 none
  statics := none }

def pool22 : Array CpInfo := pool [(1, .class_ 2), (0, u "java/util/RandomAccess"), (0, .class_ 4), (0, u "java/lang/Object")] 2

/-- java/util/RandomAccess -/
def k22 : Class := { plain "java/util/RandomAccess" (some 0) with
  accessFlags := 1537
  interfaces := #[]
  cf := some (fileOf pool22 1 #[] #[] 1537 3 #[] #[])
  fields := #[]
  methods := #[]
  instanceTypes := #[]
  staticTypes := #[]
  resolved := Array.replicate 7 none
  statics := none }

def pool23 : Array CpInfo := pool [(1, .methodref 2 3), (0, .class_ 4), (0, .nameAndType 5 6), (0, u "java/util/AbstractList"), (0, u "<init>"), (0, u "()V"), (2, .fieldref 10 11), (0, .class_ 12), (0, .nameAndType 13 14), (0, u "java/util/ArrayList"), (0, u "elementData"), (0, u "[Ljava/lang/Object;"), (2, u "EMPTY_ELEMENTDATA"), (21, .fieldref 10 40), (0, .nameAndType 41 14), (0, u "DEFAULTCAPACITY_EMPTY_ELEMENTDATA"), (8, u "size"), (0, u "I"), (96, .class_ 149), (0, u "java/util/List"), (112, .class_ 263), (0, u "java/util/ArrayList$ListItr"), (3, .class_ 268), (0, u "java/util/ArrayList$Itr"), (7, .class_ 277), (0, u "java/util/ArrayList$SubList"), (12, .class_ 291), (0, u "java/util/ArrayList$ArrayListSpliterator"), (37, .class_ 330), (0, u "java/util/RandomAccess"), (0, .class_ 332), (0, u "java/lang/Cloneable"), (0, .class_ 334), (0, u "java/io/Serializable"), (0, u "serialVersionUID"), (0, u "J"), (3, u "DEFAULT_CAPACITY"), (159, .class_ 501), (0, u "java/util/ArrayList$SubList$2"), (0, .class_ 503), (0, u "java/util/ArrayList$SubList$1")] 5

def k23c0 : Code := { maxStack := 2, maxLocals := 1, code := jdk_38_method_2_code, exceptionTable := #[], attributes := #[] }
def k23m0 : Method := { name := "<init>", desc := "()V", sig := { parameters := [], returnType := none }, accessFlags := 1, code := some k23c0 }
/-- java/util/ArrayList -/
def k23 : Class := { plain "java/util/ArrayList" (some 21) with
  accessFlags := 33
  interfaces := #[20, 22, 12, 4]
  cf := some (fileOf pool23 10 #[.nestMembers #[290, 276, 500, 502, 262, 267]] #[{ accessFlags := 1, nameIndex := 5, descriptorIndex := 6, attributes := #[] }] 33 2 #[148, 329, 331, 333] #[{ accessFlags := 26, nameIndex := 335, descriptorIndex := 336, attributes := #[] }, { accessFlags := 26, nameIndex := 340, descriptorIndex := 51, attributes := #[] }, { accessFlags := 26, nameIndex := 17, descriptorIndex := 14, attributes := #[] }, { accessFlags := 26, nameIndex := 41, descriptorIndex := 14, attributes := #[] }, { accessFlags := 128, nameIndex := 13, descriptorIndex := 14, attributes := #[] }, { accessFlags := 2, nameIndex := 50, descriptorIndex := 51, attributes := #[] }])
  fields := #[{ name := "serialVersionUID", type := .long, accessFlags := 26, slot := 0, constantValue := 0 }, { name := "DEFAULT_CAPACITY", type := .int, accessFlags := 26, slot := 1, constantValue := 0 }, { name := "EMPTY_ELEMENTDATA", type := (.array (.object "java/lang/Object")), accessFlags := 26, slot := 2, constantValue := 0 }, { name := "DEFAULTCAPACITY_EMPTY_ELEMENTDATA", type := (.array (.object "java/lang/Object")), accessFlags := 26, slot := 3, constantValue := 0 }, { name := "elementData", type := (.array (.object "java/lang/Object")), accessFlags := 128, slot := 1, constantValue := 0 }, { name := "size", type := .int, accessFlags := 2, slot := 2, constantValue := 0 }]
  methods := #[k23m0]
  instanceTypes := #[.int, (.array (.object "java/lang/Object")), .int]
  staticTypes := #[.long, .int, (.array (.object "java/lang/Object")), (.array (.object "java/lang/Object"))]
  resolved := Array.replicate 509 none
  statics := some 0 }

def pool24 : Array CpInfo := pool [(1, .methodref 2 3), (0, .class_ 4), (0, .nameAndType 5 6), (0, u "com/example/pushout_bench/pushoutbench/graph/Element"), (0, u "<init>"), (0, u "(Ljava/lang/String;Ljava/lang/String;)V"), (0, .fieldref 8 9), (0, .class_ 10), (0, .nameAndType 11 12), (0, u "com/example/pushout_bench/pushoutbench/graph/Edge"), (0, u "source"), (0, u "Lcom/example/pushout_bench/pushoutbench/graph/Node;"), (0, .fieldref 8 14), (0, .nameAndType 15 12), (0, u "target"), (14, u "(Ljava/lang/String;Ljava/lang/String;Lcom/example/pushout_bench/pushoutbench/graph/Node;Lcom/example/pushout_bench/pushoutbench/graph/Node;)V")] 21

def k24c0 : Code := { maxStack := 3, maxLocals := 5, code := prog_59_method_1_code, exceptionTable := #[], attributes := #[] }
def k24m0 : Method := { name := "<init>", desc := "(Ljava/lang/String;Ljava/lang/String;Lcom/example/pushout_bench/pushoutbench/graph/Node;Lcom/example/pushout_bench/pushoutbench/graph/Node;)V", sig := { parameters := [(.object "java/lang/String"), (.object "java/lang/String"), (.object "com/example/pushout_bench/pushoutbench/graph/Node"), (.object "com/example/pushout_bench/pushoutbench/graph/Node")], returnType := none }, accessFlags := 0, code := some k24c0 }
/-- com/example/pushout_bench/pushoutbench/graph/Edge -/
def k24 : Class := { plain "com/example/pushout_bench/pushoutbench/graph/Edge" (some 2) with
  accessFlags := 49
  interfaces := #[]
  cf := some (fileOf pool24 8 #[] #[{ accessFlags := 0, nameIndex := 5, descriptorIndex := 30, attributes := #[] }] 49 2 #[] #[{ accessFlags := 18, nameIndex := 11, descriptorIndex := 12, attributes := #[] }, { accessFlags := 18, nameIndex := 15, descriptorIndex := 12, attributes := #[] }])
  fields := #[{ name := "source", type := (.object "com/example/pushout_bench/pushoutbench/graph/Node"), accessFlags := 18, slot := 4, constantValue := 0 }, { name := "target", type := (.object "com/example/pushout_bench/pushoutbench/graph/Node"), accessFlags := 18, slot := 5, constantValue := 0 }]
  methods := #[k24m0]
  instanceTypes := #[(.object "java/lang/String"), (.object "java/lang/String"), (.object "java/util/Map"), .long, (.object "com/example/pushout_bench/pushoutbench/graph/Node"), (.object "com/example/pushout_bench/pushoutbench/graph/Node")]
  staticTypes := #[]
  resolved := Array.replicate 52 none
  statics := none }

def pool25 : Array CpInfo := pool [(1, .methodref 2 3), (0, .class_ 4), (0, .nameAndType 5 6), (0, u "java/lang/Object"), (0, u "<init>"), (0, u "()V"), (0, .class_ 8), (0, u "java/util/LinkedHashMap"), (0, .methodref 7 3), (0, .fieldref 11 12), (0, .class_ 13), (0, .nameAndType 14 15), (0, u "com/example/pushout_bench/pushoutbench/graph/Changes"), (0, u "attributes"), (0, u "Ljava/util/Map;"), (0, .class_ 17), (0, u "java/util/HashMap"), (0, .methodref 16 3), (0, .fieldref 11 20), (0, .nameAndType 21 15), (0, u "added"), (0, .class_ 23), (0, u "java/util/HashSet"), (0, .methodref 22 3), (0, .fieldref 11 26), (0, .nameAndType 27 28), (0, u "addedOrRemoved"), (0, u "Ljava/util/Set;"), (0, .fieldref 11 30), (0, .nameAndType 31 15), (0, u "removedOutgoing"), (0, .fieldref 11 33), (0, .nameAndType 34 15), (0, u "removedIncoming"), (0, .fieldref 11 36), (0, .nameAndType 37 38), (0, u "markSerial"), (0, u "J"), (49, .methodref 89 90), (0, .class_ 91), (0, .nameAndType 92 93), (0, u "com/example/pushout_bench/pushoutbench/graph/Element"), (0, u "serial"), (0, u "()J"), (29, u "(J)V"), (7, u "isNew"), (0, u "(Lcom/example/pushout_bench/pushoutbench/graph/Element;)Z")] 37

def k25c0 : Code := { maxStack := 3, maxLocals := 3, code := prog_57_method_1_code, exceptionTable := #[], attributes := #[] }
def k25m0 : Method := { name := "<init>", desc := "(J)V", sig := { parameters := [.long], returnType := none }, accessFlags := 0, code := some k25c0 }
def k25c1 : Code := { maxStack := 4, maxLocals := 2, code := prog_57_method_4_code, exceptionTable := #[], attributes := #[] }
def k25m1 : Method := { name := "isNew", desc := "(Lcom/example/pushout_bench/pushoutbench/graph/Element;)Z", sig := { parameters := [(.object "com/example/pushout_bench/pushoutbench/graph/Element")], returnType := some .boolean }, accessFlags := 1, code := some k25c1 }
/-- com/example/pushout_bench/pushoutbench/graph/Changes -/
def k25 : Class := { plain "com/example/pushout_bench/pushoutbench/graph/Changes" (some 0) with
  accessFlags := 49
  interfaces := #[]
  cf := some (fileOf pool25 11 #[] #[{ accessFlags := 0, nameIndex := 5, descriptorIndex := 123, attributes := #[] }, { accessFlags := 1, nameIndex := 131, descriptorIndex := 132, attributes := #[] }] 49 2 #[] #[{ accessFlags := 18, nameIndex := 37, descriptorIndex := 38, attributes := #[] }, { accessFlags := 18, nameIndex := 14, descriptorIndex := 15, attributes := #[] }, { accessFlags := 18, nameIndex := 21, descriptorIndex := 15, attributes := #[] }, { accessFlags := 18, nameIndex := 27, descriptorIndex := 28, attributes := #[] }, { accessFlags := 18, nameIndex := 31, descriptorIndex := 15, attributes := #[] }, { accessFlags := 18, nameIndex := 34, descriptorIndex := 15, attributes := #[] }])
  fields := #[{ name := "markSerial", type := .long, accessFlags := 18, slot := 0, constantValue := 0 }, { name := "attributes", type := (.object "java/util/Map"), accessFlags := 18, slot := 1, constantValue := 0 }, { name := "added", type := (.object "java/util/Map"), accessFlags := 18, slot := 2, constantValue := 0 }, { name := "addedOrRemoved", type := (.object "java/util/Set"), accessFlags := 18, slot := 3, constantValue := 0 }, { name := "removedOutgoing", type := (.object "java/util/Map"), accessFlags := 18, slot := 4, constantValue := 0 }, { name := "removedIncoming", type := (.object "java/util/Map"), accessFlags := 18, slot := 5, constantValue := 0 }]
  methods := #[k25m0, k25m1]
  instanceTypes := #[.long, (.object "java/util/Map"), (.object "java/util/Map"), (.object "java/util/Set"), (.object "java/util/Map"), (.object "java/util/Map")]
  staticTypes := #[]
  resolved := Array.replicate 170 none
  statics := none }

def pool26 : Array CpInfo := pool [(26, .class_ 27), (0, u "java/lang/Object"), (5, .class_ 34), (0, u "java/util/Set"), (1, .class_ 38), (1, u "java/util/Collection")] 105

/-- java/util/Set -/
def k26 : Class := { plain "java/util/Set" (some 0) with
  accessFlags := 1537
  interfaces := #[17]
  cf := some (fileOf pool26 33 #[] #[] 1537 26 #[36] #[])
  fields := #[]
  methods := #[]
  instanceTypes := #[]
  staticTypes := #[]
  resolved := Array.replicate 144 none
  statics := none }

def pool27 : Array CpInfo := pool [(1, .methodref 2 3), (0, .class_ 4), (0, .nameAndType 5 6), (0, u "java/util/AbstractCollection"), (0, u "<init>"), (0, u "()V"), (0, .class_ 8), (0, u "java/util/Set"), (7, .class_ 17), (0, u "java/util/AbstractSet")] 78

def k27c0 : Code := { maxStack := 1, maxLocals := 1, code := jdk_91_method_1_code, exceptionTable := #[], attributes := #[] }
def k27m0 : Method := { name := "<init>", desc := "()V", sig := { parameters := [], returnType := none }, accessFlags := 4, code := some k27c0 }
/-- java/util/AbstractSet -/
def k27 : Class := { plain "java/util/AbstractSet" (some 18) with
  accessFlags := 1057
  interfaces := #[26]
  cf := some (fileOf pool27 16 #[] #[{ accessFlags := 4, nameIndex := 5, descriptorIndex := 6, attributes := #[] }] 1057 2 #[7] #[])
  fields := #[]
  methods := #[k27m0]
  instanceTypes := #[]
  staticTypes := #[]
  resolved := Array.replicate 96 none
  statics := none }

def pool28 : Array CpInfo := pool [(1, .methodref 2 3), (0, .class_ 4), (0, .nameAndType 5 6), (0, u "java/util/AbstractSet"), (0, u "<init>"), (0, u "()V"), (0, .class_ 8), (0, u "java/util/HashMap"), (0, .methodref 7 3), (0, .fieldref 11 12), (0, .class_ 13), (0, .nameAndType 14 15), (0, u "java/util/HashSet"), (0, u "map"), (0, u "Ljava/util/HashMap;"), (34, .class_ 52), (1, u "java/util/Set"), (13, u "PRESENT"), (0, u "Ljava/lang/Object;"), (158, .class_ 227), (0, u "java/lang/Cloneable"), (0, .class_ 229), (0, u "java/io/Serializable"), (0, u "serialVersionUID"), (0, u "J")] 71

def k28c0 : Code := { maxStack := 3, maxLocals := 1, code := jdk_93_method_1_code, exceptionTable := #[], attributes := #[] }
def k28m0 : Method := { name := "<init>", desc := "()V", sig := { parameters := [], returnType := none }, accessFlags := 1, code := some k28c0 }
/-- java/util/HashSet -/
def k28 : Class := { plain "java/util/HashSet" (some 27) with
  accessFlags := 33
  interfaces := #[26, 12, 4]
  cf := some (fileOf pool28 11 #[] #[{ accessFlags := 1, nameIndex := 5, descriptorIndex := 6, attributes := #[] }] 33 2 #[50, 226, 228] #[{ accessFlags := 24, nameIndex := 230, descriptorIndex := 231, attributes := #[] }, { accessFlags := 128, nameIndex := 14, descriptorIndex := 15, attributes := #[] }, { accessFlags := 24, nameIndex := 66, descriptorIndex := 67, attributes := #[] }])
  fields := #[{ name := "serialVersionUID", type := .long, accessFlags := 24, slot := 0, constantValue := 0 }, { name := "map", type := (.object "java/util/HashMap"), accessFlags := 128, slot := 0, constantValue := 0 }, { name := "PRESENT", type := (.object "java/lang/Object"), accessFlags := 24, slot := 1, constantValue := 0 }]
  methods := #[k28m0]
  instanceTypes := #[(.object "java/util/HashMap")]
  staticTypes := #[.long, (.object "java/lang/Object")]
  resolved := Array.replicate 303 none
  statics := none }

/-- the primitive byte -/
def k29 : Class := { plain "byte" none with kind := .primitive 'B', accessFlags := 0x411 }
/-- [B -/
def k30 : Class := { plain "[B" (some 0) with kind := .array 29 .byte, interfaces := #[12, 4], accessFlags := 1041 }

/-- the primitive int -/
def k31 : Class := { plain "int" none with kind := .primitive 'I', accessFlags := 0x411 }
/-- [I -/
def k32 : Class := { plain "[I" (some 0) with kind := .array 31 .int, interfaces := #[12, 4], accessFlags := 1041 }

/-- [Ljava/lang/Object; -/
def k33 : Class := { plain "[Ljava/lang/Object;" (some 0) with kind := .array 0 (.object "java/lang/Object"), interfaces := #[12, 4], accessFlags := 1041 }

def heap : Heap := #[{ cls := 23, slots := #[.long 0, .int 0, .ref 1, .ref 2], vm := .statics 23 },
  { cls := 33, slots := #[], vm := .none },
  { cls := 33, slots := #[], vm := .none }]
def classes : Array Class := #[k0, k1, k2, k3, k4, k5, k6, k7, k8, k9, k10, k11, k12, k13, k14, k15, k16, k17, k18, k19, k20, k21, k22, k23, k24, k25, k26, k27, k28, k29, k30, k31, k32, k33]
def interned : List (Array UInt16 × Addr) := []
def slotsUsed : Nat := 4
def theMethod : MethodId := ⟨1, 1⟩
def args0 : Array Value := #[.long 5, .long 5, .long 5]
def aboutOver (below : List Frame) : State where
  vm := { classes := classes, interned := interned.toArray }
  heap := heap
  slotsUsed := slotsUsed
  threads := #[{ frames := .invoking theMethod args0 :: below }]
def below0 : List Frame := [.native { method := ⟨0, 0⟩, args := #[] }]
def about1 : State := aboutOver below0
def p0 : Program := .bare "" "" ""
def e0 : Env := launch0.env 0 0 0
theorem w_frames : about1.frames = Frame.invoking theMethod args0 :: below0 := rfl
set_option maxRecDepth 65536 in
theorem w_args : argsFit about1.vm theMethod args0 = true := by decide +kernel
set_option maxRecDepth 65536 in
theorem w_heap : heapFits about1 = true := by decide +kernel
set_option maxRecDepth 65536 in
theorem w_runnable : about1.curStatus? = some .runnable := by decide +kernel
set_option maxRecDepth 65536 in
theorem w_alone : about1.alone = true := by decide +kernel
set_option maxRecDepth 65536 in
theorem w_named : about1.methodNamed? x = some theMethod := by decide +kernel
set_option maxRecDepth 65536 in
theorem w_hears : about1.hears theMethod below0 = true := by decide +kernel
set_option maxRecDepth 65536 in
theorem w_ripe : about1.ripe theMethod args0 below0 = true := by decide +kernel
theorem w_running : about1.status = .running := rfl
set_option maxRecDepth 65536 in
theorem w_room : about1.hasRoom e0.platform room_1 = true :=
  launch0.hasRoom_least _ room_1 (by decide +kernel) (by decide +kernel) (by decide +kernel) (by decide +kernel) (by decide +kernel) (by decide +kernel)
theorem allAtoms_all (ts : List Jvm.Cond) (a : Array Jvm.Value) (st : Jvm.State) : (allAtoms ts).before a st = ts.all (fun c => c.before a st) := by
  induction ts with
  | nil => rfl
  | cons c t ih =>
    show (Jvm.Cond.and c (allAtoms t)).before a st = _
    rw [Jvm.Cond.before_and, ih, List.all_cons]
def words1 : List Jvm.Cond := Jvm.Cond.code x code maxLocals ret :: tables_1
/-- a 'code' word, met by the world's own term for the bytes: nothing is compared byte by byte -/
theorem code_word {y : MethodName} {bytes : ByteArray} {mx : Nat} {rt : Option FieldType} {a : Array Value} {s : State} {m : MethodId} {meth : Method} {c : Code} (h1 : s.methodNamed? y = some m) (h2 : s.vm.method? m = some meth) (h3 : meth.code = some c) (h4 : c.code = bytes)
    (h5 : (c.maxLocals == mx && c.exceptionTable.isEmpty && decide (c.maxStack ≤ mostOperands) && decide (meth.sig.returnType = rt) && !meth.locks && decide (parseMethodDescriptor y.desc = some meth.sig)) = true) : (Jvm.Cond.code y bytes mx rt).before a s = true := by
  simp only [Bool.and_eq_true, beq_iff_eq, Bool.not_eq_true', decide_eq_true_eq] at h5
  obtain ⟨⟨⟨⟨⟨g1, g2⟩, g3⟩, g4⟩, g5⟩, g6⟩ := h5
  simp [Cond.before, Cond.holds, Cond.value, h1, h2, h3, h4, g1, g2, g3, g4, g5, g6]
def isCode : Jvm.Cond → Bool
  | .code _ _ _ _ => true
  | _ => false
theorem all_split {L : List Jvm.Cond} {P : Jvm.Cond → Bool} (h1 : L.all (fun c => isCode c || P c) = true) (h2 : ∀ c ∈ L.filter isCode, P c = true) : L.all P = true := by
  refine List.all_eq_true.mpr fun c hc => ?_
  have h := List.all_eq_true.mp h1 c hc
  rcases Bool.eq_false_or_eq_true (isCode c) with hi | hi
  · exact h2 c (List.mem_filter.mpr ⟨hc, hi⟩)
  · simpa [hi] using h
set_option maxRecDepth 65536 in
theorem w_c0 : (Jvm.Cond.code x code maxLocals ret).before args0 about1 = true := code_word (m := ⟨1, 1⟩) (meth := k1m1) (c := k1c1) (by decide +kernel) rfl rfl rfl (by decide +kernel)
set_option maxRecDepth 65536 in
theorem w_c1 : (Jvm.Cond.code ({ cls := "com/example/pushout_bench/pushoutbench/graph/Node", name := "<init>", desc := "(Ljava/lang/String;Ljava/lang/String;)V" } : Jvm.MethodName) prog_66_method_1_code (3 : Nat) (Option.none : Option Jvm.ClassFile.FieldType)).before args0 about1 = true := code_word (m := ⟨3, 0⟩) (meth := k3m0) (c := k3c0) (by decide +kernel) rfl rfl rfl (by decide +kernel)
set_option maxRecDepth 65536 in
theorem w_c2 : (Jvm.Cond.code ({ cls := "com/example/pushout_bench/pushoutbench/graph/Element", name := "<init>", desc := "(Ljava/lang/String;Ljava/lang/String;)V" } : Jvm.MethodName) prog_60_method_1_code (3 : Nat) (Option.none : Option Jvm.ClassFile.FieldType)).before args0 about1 = true := code_word (m := ⟨2, 0⟩) (meth := k2m0) (c := k2c0) (by decide +kernel) rfl rfl rfl (by decide +kernel)
set_option maxRecDepth 65536 in
theorem w_c3 : (Jvm.Cond.code ({ cls := "java/lang/Object", name := "<init>", desc := "()V" } : Jvm.MethodName) object_method_1_code (1 : Nat) (Option.none : Option Jvm.ClassFile.FieldType)).before args0 about1 = true := code_word (m := ⟨0, 0⟩) (meth := k0m0) (c := k0c0) (by decide +kernel) rfl rfl rfl (by decide +kernel)
set_option maxRecDepth 65536 in
theorem w_c4 : (Jvm.Cond.code ({ cls := "java/util/LinkedHashMap", name := "<init>", desc := "()V" } : Jvm.MethodName) jdk_94_method_16_code (1 : Nat) (Option.none : Option Jvm.ClassFile.FieldType)).before args0 about1 = true := code_word (m := ⟨15, 0⟩) (meth := k15m0) (c := k15c0) (by decide +kernel) rfl rfl rfl (by decide +kernel)
set_option maxRecDepth 65536 in
theorem w_c5 : (Jvm.Cond.code ({ cls := "java/util/HashMap", name := "<init>", desc := "()V" } : Jvm.MethodName) jdk_69_method_7_code (1 : Nat) (Option.none : Option Jvm.ClassFile.FieldType)).before args0 about1 = true := code_word (m := ⟨13, 0⟩) (meth := k13m0) (c := k13c0) (by decide +kernel) rfl rfl rfl (by decide +kernel)
set_option maxRecDepth 65536 in
theorem w_c6 : (Jvm.Cond.code ({ cls := "java/util/AbstractMap", name := "<init>", desc := "()V" } : Jvm.MethodName) jdk_71_method_1_code (1 : Nat) (Option.none : Option Jvm.ClassFile.FieldType)).before args0 about1 = true := code_word (m := ⟨11, 0⟩) (meth := k11m0) (c := k11c0) (by decide +kernel) rfl rfl rfl (by decide +kernel)
set_option maxRecDepth 65536 in
theorem w_c7 : (Jvm.Cond.code ({ cls := "java/util/ArrayList", name := "<init>", desc := "()V" } : Jvm.MethodName) jdk_38_method_2_code (1 : Nat) (Option.none : Option Jvm.ClassFile.FieldType)).before args0 about1 = true := code_word (m := ⟨23, 0⟩) (meth := k23m0) (c := k23c0) (by decide +kernel) rfl rfl rfl (by decide +kernel)
set_option maxRecDepth 65536 in
theorem w_c8 : (Jvm.Cond.code ({ cls := "java/util/AbstractList", name := "<init>", desc := "()V" } : Jvm.MethodName) jdk_39_method_1_code (1 : Nat) (Option.none : Option Jvm.ClassFile.FieldType)).before args0 about1 = true := code_word (m := ⟨21, 0⟩) (meth := k21m0) (c := k21c0) (by decide +kernel) rfl rfl rfl (by decide +kernel)
set_option maxRecDepth 65536 in
theorem w_c9 : (Jvm.Cond.code ({ cls := "java/util/AbstractCollection", name := "<init>", desc := "()V" } : Jvm.MethodName) jdk_22_method_1_code (1 : Nat) (Option.none : Option Jvm.ClassFile.FieldType)).before args0 about1 = true := code_word (m := ⟨18, 0⟩) (meth := k18m0) (c := k18c0) (by decide +kernel) rfl rfl rfl (by decide +kernel)
set_option maxRecDepth 65536 in
theorem w_c10 : (Jvm.Cond.code ({ cls := "com/example/pushout_bench/pushoutbench/graph/Edge", name := "<init>", desc := "(Ljava/lang/String;Ljava/lang/String;Lcom/example/pushout_bench/pushoutbench/graph/Node;Lcom/example/pushout_bench/pushoutbench/graph/Node;)V" } : Jvm.MethodName) prog_59_method_1_code (5 : Nat) (Option.none : Option Jvm.ClassFile.FieldType)).before args0 about1 = true := code_word (m := ⟨24, 0⟩) (meth := k24m0) (c := k24c0) (by decide +kernel) rfl rfl rfl (by decide +kernel)
set_option maxRecDepth 65536 in
theorem w_c11 : (Jvm.Cond.code ({ cls := "com/example/pushout_bench/pushoutbench/graph/Changes", name := "<init>", desc := "(J)V" } : Jvm.MethodName) prog_57_method_1_code (3 : Nat) (Option.none : Option Jvm.ClassFile.FieldType)).before args0 about1 = true := code_word (m := ⟨25, 0⟩) (meth := k25m0) (c := k25c0) (by decide +kernel) rfl rfl rfl (by decide +kernel)
set_option maxRecDepth 65536 in
theorem w_c12 : (Jvm.Cond.code ({ cls := "java/util/HashSet", name := "<init>", desc := "()V" } : Jvm.MethodName) jdk_93_method_1_code (1 : Nat) (Option.none : Option Jvm.ClassFile.FieldType)).before args0 about1 = true := code_word (m := ⟨28, 0⟩) (meth := k28m0) (c := k28c0) (by decide +kernel) rfl rfl rfl (by decide +kernel)
set_option maxRecDepth 65536 in
theorem w_c13 : (Jvm.Cond.code ({ cls := "java/util/AbstractSet", name := "<init>", desc := "()V" } : Jvm.MethodName) jdk_91_method_1_code (1 : Nat) (Option.none : Option Jvm.ClassFile.FieldType)).before args0 about1 = true := code_word (m := ⟨27, 0⟩) (meth := k27m0) (c := k27c0) (by decide +kernel) rfl rfl rfl (by decide +kernel)
set_option maxRecDepth 65536 in
theorem w_c14 : (Jvm.Cond.code ({ cls := "com/example/pushout_bench/pushoutbench/graph/Changes", name := "isNew", desc := "(Lcom/example/pushout_bench/pushoutbench/graph/Element;)Z" } : Jvm.MethodName) prog_57_method_4_code (2 : Nat) (Option.some Jvm.ClassFile.FieldType.boolean)).before args0 about1 = true := code_word (m := ⟨25, 1⟩) (meth := k25m1) (c := k25c1) (by decide +kernel) rfl rfl rfl (by decide +kernel)
set_option maxRecDepth 65536 in
theorem w_c15 : (Jvm.Cond.code ({ cls := "com/example/pushout_bench/pushoutbench/graph/Element", name := "serial", desc := "()J" } : Jvm.MethodName) prog_60_method_3_code (1 : Nat) (Option.some Jvm.ClassFile.FieldType.long)).before args0 about1 = true := code_word (m := ⟨2, 1⟩) (meth := k2m1) (c := k2c1) (by decide +kernel) rfl rfl rfl (by decide +kernel)
def codes1 : List Jvm.Cond := [Jvm.Cond.code x code maxLocals ret, Jvm.Cond.code ({ cls := "com/example/pushout_bench/pushoutbench/graph/Node", name := "<init>", desc := "(Ljava/lang/String;Ljava/lang/String;)V" } : Jvm.MethodName) prog_66_method_1_code (3 : Nat) (Option.none : Option Jvm.ClassFile.FieldType), Jvm.Cond.code ({ cls := "com/example/pushout_bench/pushoutbench/graph/Element", name := "<init>", desc := "(Ljava/lang/String;Ljava/lang/String;)V" } : Jvm.MethodName) prog_60_method_1_code (3 : Nat) (Option.none : Option Jvm.ClassFile.FieldType), Jvm.Cond.code ({ cls := "java/lang/Object", name := "<init>", desc := "()V" } : Jvm.MethodName) object_method_1_code (1 : Nat) (Option.none : Option Jvm.ClassFile.FieldType), Jvm.Cond.code ({ cls := "java/util/LinkedHashMap", name := "<init>", desc := "()V" } : Jvm.MethodName) jdk_94_method_16_code (1 : Nat) (Option.none : Option Jvm.ClassFile.FieldType), Jvm.Cond.code ({ cls := "java/util/HashMap", name := "<init>", desc := "()V" } : Jvm.MethodName) jdk_69_method_7_code (1 : Nat) (Option.none : Option Jvm.ClassFile.FieldType), Jvm.Cond.code ({ cls := "java/util/AbstractMap", name := "<init>", desc := "()V" } : Jvm.MethodName) jdk_71_method_1_code (1 : Nat) (Option.none : Option Jvm.ClassFile.FieldType), Jvm.Cond.code ({ cls := "java/util/ArrayList", name := "<init>", desc := "()V" } : Jvm.MethodName) jdk_38_method_2_code (1 : Nat) (Option.none : Option Jvm.ClassFile.FieldType), Jvm.Cond.code ({ cls := "java/util/AbstractList", name := "<init>", desc := "()V" } : Jvm.MethodName) jdk_39_method_1_code (1 : Nat) (Option.none : Option Jvm.ClassFile.FieldType), Jvm.Cond.code ({ cls := "java/util/AbstractCollection", name := "<init>", desc := "()V" } : Jvm.MethodName) jdk_22_method_1_code (1 : Nat) (Option.none : Option Jvm.ClassFile.FieldType), Jvm.Cond.code ({ cls := "com/example/pushout_bench/pushoutbench/graph/Edge", name := "<init>", desc := "(Ljava/lang/String;Ljava/lang/String;Lcom/example/pushout_bench/pushoutbench/graph/Node;Lcom/example/pushout_bench/pushoutbench/graph/Node;)V" } : Jvm.MethodName) prog_59_method_1_code (5 : Nat) (Option.none : Option Jvm.ClassFile.FieldType), Jvm.Cond.code ({ cls := "com/example/pushout_bench/pushoutbench/graph/Changes", name := "<init>", desc := "(J)V" } : Jvm.MethodName) prog_57_method_1_code (3 : Nat) (Option.none : Option Jvm.ClassFile.FieldType), Jvm.Cond.code ({ cls := "java/util/HashSet", name := "<init>", desc := "()V" } : Jvm.MethodName) jdk_93_method_1_code (1 : Nat) (Option.none : Option Jvm.ClassFile.FieldType), Jvm.Cond.code ({ cls := "java/util/AbstractSet", name := "<init>", desc := "()V" } : Jvm.MethodName) jdk_91_method_1_code (1 : Nat) (Option.none : Option Jvm.ClassFile.FieldType), Jvm.Cond.code ({ cls := "com/example/pushout_bench/pushoutbench/graph/Changes", name := "isNew", desc := "(Lcom/example/pushout_bench/pushoutbench/graph/Element;)Z" } : Jvm.MethodName) prog_57_method_4_code (2 : Nat) (Option.some Jvm.ClassFile.FieldType.boolean), Jvm.Cond.code ({ cls := "com/example/pushout_bench/pushoutbench/graph/Element", name := "serial", desc := "()J" } : Jvm.MethodName) prog_60_method_3_code (1 : Nat) (Option.some Jvm.ClassFile.FieldType.long)]
set_option maxRecDepth 65536 in
theorem codes_eq : words1.filter isCode = codes1 := rfl
theorem w_codes : ∀ c ∈ words1.filter isCode, c.before args0 about1 = true := by
  rw [codes_eq]
  intro c hc
  simp only [codes1, List.mem_cons, List.not_mem_nil, or_false] at hc
  rcases hc with rfl | rfl | rfl | rfl | rfl | rfl | rfl | rfl | rfl | rfl | rfl | rfl | rfl | rfl | rfl | rfl
  · exact w_c0
  · exact w_c1
  · exact w_c2
  · exact w_c3
  · exact w_c4
  · exact w_c5
  · exact w_c6
  · exact w_c7
  · exact w_c8
  · exact w_c9
  · exact w_c10
  · exact w_c11
  · exact w_c12
  · exact w_c13
  · exact w_c14
  · exact w_c15
set_option maxRecDepth 65536 in
theorem w_t1 : (words1.take 24).all (fun c => isCode c || c.before args0 about1) = true := by decide +kernel
set_option maxRecDepth 65536 in
theorem w_t2 : ((words1.drop 24).take 24).all (fun c => isCode c || c.before args0 about1) = true := by decide +kernel
set_option maxRecDepth 65536 in
theorem w_t3 : (((words1.drop 24).drop 24).take 24).all (fun c => isCode c || c.before args0 about1) = true := by decide +kernel
set_option maxRecDepth 65536 in
theorem w_t4 : ((((words1.drop 24).drop 24).drop 24).take 24).all (fun c => isCode c || c.before args0 about1) = true := by decide +kernel
set_option maxRecDepth 65536 in
theorem w_t5 : (((((words1.drop 24).drop 24).drop 24).drop 24).take 24).all (fun c => isCode c || c.before args0 about1) = true := by decide +kernel
set_option maxRecDepth 65536 in
theorem w_t6 : ((((((words1.drop 24).drop 24).drop 24).drop 24).drop 24).take 24).all (fun c => isCode c || c.before args0 about1) = true := by decide +kernel
set_option maxRecDepth 65536 in
theorem w_t7 : ((((((words1.drop 24).drop 24).drop 24).drop 24).drop 24).drop 24).all (fun c => isCode c || c.before args0 about1) = true := by decide +kernel
theorem w_tables : (allAtoms (Jvm.Cond.code x code maxLocals ret :: tables_1)).before args0 about1 = true := by
  rw [allAtoms_all]
  show words1.all (fun c => c.before args0 about1) = true
  refine all_split ?_ w_codes
  rw [← List.take_append_drop 24 words1, List.all_append, w_t1, ← List.take_append_drop 24 (words1.drop 24), List.all_append, w_t2, ← List.take_append_drop 24 ((words1.drop 24).drop 24), List.all_append, w_t3, ← List.take_append_drop 24 (((words1.drop 24).drop 24).drop 24), List.all_append, w_t4, ← List.take_append_drop 24 ((((words1.drop 24).drop 24).drop 24).drop 24), List.all_append, w_t5, ← List.take_append_drop 24 (((((words1.drop 24).drop 24).drop 24).drop 24).drop 24), List.all_append, w_t6, w_t7]
  rfl
set_option maxRecDepth 65536 in
theorem w_rest : rest_1_c.before args0 about1 = true := by decide +kernel
set_option maxRecDepth 65536 in
theorem w_case : (Jvm.Cond.and given_1 narrow_1).before args0 about1 = true := by decide +kernel
theorem w_applies : (headSpec (Jvm.Cond.code x code maxLocals ret :: tables_1) room_1).applies x e0.platform about1 = true :=
  (Spec.applies_iff w_frames).mpr ⟨w_running, w_runnable, w_alone, w_named, w_hears, w_ripe, w_room, w_tables⟩
theorem atStart : AtStart classFile x code maxLocals ret World_1 tables_1 room_1 Calls_1 rest_1 Pre_1 launch0 p0 e0 about1 theMethod args0 below0 :=
  ⟨lists_1, trivial, launch0.admits_env _ _ _, launch0.least_env, fairChoices_fair.cas, fairChoices_fair.clock, w_frames, w_args, w_heap, w_applies, trivial, w_rest, w_case⟩
end start1
theorem witness_1 : WitnessClaimed_1 := ⟨start1.p0, start1.e0, start1.about1, start1.theMethod, start1.args0, start1.below0, start1.atStart⟩
end Jvm.Pilot.@@N@@
