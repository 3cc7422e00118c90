import JvmDerived
import JvmDerived.Pilot.@@N@@Statement
import JvmDerived.Pilot.@@N@@Code
set_option linter.unusedVariables false
set_option linter.unusedSimpArgs false
@@BLOCK:NumsL.lean.txt@@
namespace Jvm.RoadKit
open Sem ClassFile Op Lib Jvm.Stand Jvm.Free Jvm.LawKit
section Own
variable {p : Program} {l : Launch} {e : Env} {R : Room} {s : State} {m : MethodId} {args : Array Value} {below : List Frame} {meth : Method} {c : Code} {T : State} {locs : List Loc} {cells slots : Nat}
/-- from t the run ends in a return of which Q holds -/
def OGo (p : Program) (e : Env) (below : List Frame) (s : State) (Q : Option Value → Heap → List Loc → Prop) (C N : Nat) (t : State) : Prop :=
  ∃ s₂ o, Steps p.tables e below t s₂ ∧ s₂.status = .running ∧ Ended s₂ below o ∧ ∃ v L, o = .returned v ∧ Q v s₂.heap L ∧ FrameEnd s o s₂ L C N
theorem OGo.st {Q : Option Value → Heap → List Loc → Prop} {C N : Nat} {t t' : State} (k : ∀ target, Steps p.tables e below t' target → Steps p.tables e below t target) (h : OGo p e below s Q C N t') : OGo p e below s Q C N t := by
  obtain ⟨s₂, o, a, r⟩ := h; exact ⟨s₂, o, k _ a, r⟩
theorem oretW {Q : Option Value → Heap → List Loc → Prop} {C N : Nat} (X : Stand p l e R s m args below meth c T locs cells slots) (hx : p.tables.exec = Jvm.exec) (hlk : meth.locks = false) {pc : Nat} {Ls : Array Slot} {w : Value} {t : FieldType} {i : Instr} {rest : List Value} (hret : meth.sig.returnType = some t) (hn : narrow t w = w)
    (hi : (i = .ireturn ∧ (t = .int ∨ t = .boolean ∨ t = .byte ∨ t = .char ∨ t = .short) ∧ ∃ z, w = .int z) ∨ (i = .lreturn ∧ t = .long ∧ ∃ z, w = .long z) ∨ (i = .dreturn ∧ t = .double ∧ ∃ z, w = .double z) ∨ (i = .freturn ∧ t = .float ∧ ∃ z, w = .float z) ∨ (i = .areturn ∧ t.isReference = true ∧ w.isRef = true))
    (hd : decode c.code pc = .ok (i, 1)) {h : Heap} (hh : T.heap = h) (hq : Q (some w) h locs) (hC : cells ≤ C) (hN : slots ≤ N) : OGo p e below s Q C N (T.setTop (mkF m pc Ls (w :: rest))) := by
  obtain ⟨fs, hr, hrun, hended, hW, hsame⟩ := X.leave (v := some w) (fun h => by rw [hret] at h; cases h) hlk
  exact ⟨_, _, retOut X hx hret hn hi hd hr, hrun, hended, _, _, rfl, hh ▸ hq, ⟨_, rfl⟩, hW, hsame.mono hC hN⟩
theorem oretI {Q : Option Value → Heap → List Loc → Prop} {C N : Nat} (X : Stand p l e R s m args below meth c T locs cells slots) (hx : p.tables.exec = Jvm.exec) (hlk : meth.locks = false) {pc : Nat} {Ls : Array Slot} {z : Int32} {rest : List Value} (hret : meth.sig.returnType = some .int)
    (hd : decode c.code pc = .ok (.ireturn, 1)) {h : Heap} (hh : T.heap = h) (hq : Q (some (.int z)) h locs) (hC : cells ≤ C) (hN : slots ≤ N) : OGo p e below s Q C N (T.setTop (mkF m pc Ls (.int z :: rest))) :=
  oretW X hx hlk hret rfl (Or.inl ⟨rfl, Or.inl rfl, _, rfl⟩) hd hh hq hC hN
theorem oretJ {Q : Option Value → Heap → List Loc → Prop} {C N : Nat} (X : Stand p l e R s m args below meth c T locs cells slots) (hx : p.tables.exec = Jvm.exec) (hlk : meth.locks = false) {pc : Nat} {Ls : Array Slot} {z : Int64} {rest : List Value} (hret : meth.sig.returnType = some .long)
    (hd : decode c.code pc = .ok (.lreturn, 1)) {h : Heap} (hh : T.heap = h) (hq : Q (some (.long z)) h locs) (hC : cells ≤ C) (hN : slots ≤ N) : OGo p e below s Q C N (T.setTop (mkF m pc Ls (.long z :: rest))) :=
  oretW X hx hlk hret rfl (Or.inr (Or.inl ⟨rfl, rfl, _, rfl⟩)) hd hh hq hC hN
theorem onarR {t : FieldType} {w : Value} (ht : t.isReference = true) (hw : w.isRef = true) : narrow t w = w := by
  cases t <;> first | (cases ht; done) | (cases w <;> first | rfl | (cases hw; done))
theorem ofitR {t : FieldType} {w : Value} (ht : t.isReference = true) (hw : w.isRef = true) : fits t w = true := by
  cases t <;> first | (cases ht; done) | (cases w <;> first | rfl | (cases hw; done))
theorem oretA {Q : Option Value → Heap → List Loc → Prop} {C N : Nat} (X : Stand p l e R s m args below meth c T locs cells slots) (hx : p.tables.exec = Jvm.exec) (hlk : meth.locks = false) {pc : Nat} {Ls : Array Slot} {w : Value} {t : FieldType} {rest : List Value} (hret : meth.sig.returnType = some t) (ht : t.isReference = true) (hw : w.isRef = true)
    (hd : decode c.code pc = .ok (.areturn, 1)) {h : Heap} (hh : T.heap = h) (hq : Q (some w) h locs) (hC : cells ≤ C) (hN : slots ≤ N) : OGo p e below s Q C N (T.setTop (mkF m pc Ls (w :: rest))) :=
  oretW X hx hlk hret (onarR ht hw) (Or.inr (Or.inr (Or.inr (Or.inr ⟨rfl, ht, hw⟩)))) hd hh hq hC hN
theorem oretN {Q : Option Value → Heap → List Loc → Prop} {C N : Nat} (X : Stand p l e R s m args below meth c T locs cells slots) (hx : p.tables.exec = Jvm.exec) (hlk : meth.locks = false) {pc : Nat} {Ls : Array Slot} {z z' : Int32} {t : FieldType} {rest : List Value} (hret : meth.sig.returnType = some t) (ht : t = .boolean ∨ t = .byte ∨ t = .char ∨ t = .short)
    (hd : decode c.code pc = .ok (.ireturn, 1)) (hz : nar t z = z') {h : Heap} (hh : T.heap = h) (hq : Q (some (.int z')) h locs) (hC : cells ≤ C) (hN : slots ≤ N) : OGo p e below s Q C N (T.setTop (mkF m pc Ls (.int z :: rest))) := by
  subst hz
  obtain ⟨fs, hr, hrun, hended, hW, hsame⟩ := X.leave (v := some (.int (nar t z))) (fun h => by rw [hret] at h; cases h) hlk
  exact ⟨_, _, retN X hx hret ht hd hr, hrun, hended, _, _, rfl, hh ▸ hq, ⟨_, rfl⟩, hW, hsame.mono hC hN⟩
theorem oret0 {Q : Option Value → Heap → List Loc → Prop} {C N : Nat} (X : Stand p l e R s m args below meth c T locs cells slots) (hx : p.tables.exec = Jvm.exec) (hlk : meth.locks = false) {pc : Nat} {Ls : Array Slot} (hret : meth.sig.returnType = none)
    (hd : decode c.code pc = .ok (.return_, 1)) {h : Heap} (hh : T.heap = h) (hq : Q none h locs) (hC : cells ≤ C) (hN : slots ≤ N) : OGo p e below s Q C N (T.setTop (mkF m pc Ls [])) := by
  obtain ⟨fs, hr, hrun, hended, hW, hsame⟩ := X.leave (v := none) (fun _ => rfl) hlk
  exact ⟨_, _, X.returnOut hx hret hd hr, hrun, hended, _, _, rfl, hh ▸ hq, ⟨_, rfl⟩, hW, hsame.mono hC hN⟩
theorem olrem {tb : Tables} [Ours tb] {target : State} {g : JFrame} (h : At T m c below) (hx : tb.exec = Jvm.exec) (hg : g.method = m) {x y : Int64} {rest : List Value} (hd : decode c.code g.pc = .ok (.lrem, 1)) (hs : g.stack = .long y :: .long x :: rest) (hy : y ≠ 0)
    (hr : Steps tb e below (T.setTop { g with pc := g.pc + 1, stack := .long (x % y) :: rest }) target) : Steps tb e below (T.setTop g) target :=
  XS.lrem h hx hg hd hs hy (by rw [lrem_mod]; exact hr)
theorem olc_lt (x y : Int64) : lcmpW x y < 0 ↔ x < y := by rw [lcW]; exact lc_lt x y
theorem olc_gt (x y : Int64) : 0 < lcmpW x y ↔ y < x := by rw [lcW]; exact lc_gt x y
theorem olc_eq (x y : Int64) : lcmpW x y = 0 ↔ x = y := by rw [lcW]; exact lc_eq x y
theorem onilP {v : Int} : ∀ q ∈ ([] : List (Int × Int)), q.1 ≠ v := fun _ q => nomatch q
theorem oconsP {v a b : Int} {l : List (Int × Int)} (h : a ≠ v) (t : ∀ q ∈ l, q.1 ≠ v) : ∀ q ∈ (a, b) :: l, q.1 ≠ v := fun q hq => (List.mem_cons.mp hq).elim (fun u => by rw [u]; exact h) (t q)
theorem oint_ne {z k : Int32} {K : Int} (h : ¬ z = k) (hk : k.toInt = K) : K ≠ z.toInt := fun q => h (Int32.toInt_inj.mp (by rw [hk, q]))
theorem ofld_eq {Z : State} {t : Term} {C n d : String} {a : Addr} {k : Int32} (h : (Cond.eq (Term.field t C n d) (Term.int k)).value args Z none Z [] = some true) (ev : t.eval args Z none [] Z = some (.ref a)) : Fld Z Z.heap a C n d (.int k) := by
  apply Fld.start
  have q := fld_at (args := args) (first := Z) (o := none) (idx := []) (s := Z) (C := C) (n := n) (dd := d) ev
  simp only [Cond.value, q, Term.int_eval] at h
  cases hv : Z.fieldOf? a C n d with
  | none => simp [hv] at h
  | some v => cases v <;> simp [hv] at h <;> simp [h]
section Imp
variable {E a b : Int32}
theorem oLL (h : E < a) (k : a.toInt ≤ b.toInt) : E < b := by rw [Int32.lt_iff_toInt_lt] at *; omega
theorem oLnG (h : E < a) (k : a.toInt ≤ b.toInt + 1) : ¬ b < E := by rw [Int32.lt_iff_toInt_lt] at *; omega
theorem oLnE (h : E < a) (k : a.toInt ≤ b.toInt) : ¬ E = b := fun q => by subst q; rw [Int32.lt_iff_toInt_lt] at h; omega
theorem oGG (h : a < E) (k : b.toInt ≤ a.toInt) : b < E := by rw [Int32.lt_iff_toInt_lt] at *; omega
theorem oGnL (h : a < E) (k : b.toInt ≤ a.toInt + 1) : ¬ E < b := by rw [Int32.lt_iff_toInt_lt] at *; omega
theorem oGnE (h : a < E) (k : b.toInt ≤ a.toInt) : ¬ E = b := fun q => by subst q; rw [Int32.lt_iff_toInt_lt] at h; omega
theorem onLnL (h : ¬ E < a) (k : b.toInt ≤ a.toInt) : ¬ E < b := by rw [Int32.lt_iff_toInt_lt] at *; omega
theorem onLG (h : ¬ E < a) (k : b.toInt < a.toInt) : b < E := by rw [Int32.lt_iff_toInt_lt] at *; omega
theorem onLnE (h : ¬ E < a) (k : b.toInt < a.toInt) : ¬ E = b := fun q => by subst q; rw [Int32.lt_iff_toInt_lt] at h; omega
theorem onGnG (h : ¬ a < E) (k : a.toInt ≤ b.toInt) : ¬ b < E := by rw [Int32.lt_iff_toInt_lt] at *; omega
theorem onGL (h : ¬ a < E) (k : a.toInt < b.toInt) : E < b := by rw [Int32.lt_iff_toInt_lt] at *; omega
theorem onGnE (h : ¬ a < E) (k : a.toInt < b.toInt) : ¬ E = b := fun q => by subst q; rw [Int32.lt_iff_toInt_lt] at h; omega
end Imp
end Own
end Jvm.RoadKit
namespace Jvm.RoadKit
open Sem ClassFile Op Lib Jvm.Stand Jvm.Free Jvm.LawKit
section OwnArr
variable {p : Program} {l : Launch} {e : Env} {R : Room} {s : State} {m : MethodId} {args : Array Value} {below : List Frame} {meth : Method} {c : Code} {T : State} {locs : List Loc} {cells slots : Nat} {Z : State} {a0 : Array Value} {h h' : Heap} {a : Addr} {k : ClassId} {ty : FieldType} {z : Int32} {vs : List Value} {dv : Value}
theorem ofitc {cl : Cell} (A : Arr Z h a cl ty) (H : Has cl vs dv) (G : ∀ i, i < cl.slots.size → fits ty (vs.getD i dv) = true) : FitC Z cl := fun i v hv => by
  obtain ⟨hi, -⟩ := Array.getElem?_eq_some_iff.mp hv
  have q := (H i hi).symm.trans hv
  obtain ⟨-, kk, hk, comp, hkind⟩ := A.2.1
  have g := G i hi
  rw [Option.some.inj q] at g
  simp [State.fitsSlot, State.slotType?, hk, hkind, g]
theorem ocloneV (X : Stand p l e R s m args below meth c T locs cells slots) (hx : p.tables.exec = Jvm.exec) (hZ : Z.Warmed39 s.vm) {own ad : String} {index : Nat} (hown : s.vm.findClass own = some m.cls)
    (w1 : (Cond.methodLink own index ⟨ad, "clone", "()Ljava/lang/Object;"⟩).before a0 Z = true) (w2 : (Cond.sameMethod ad "java/lang/Object" "clone" "()Ljava/lang/Object;").before a0 Z = true) (w3 : (Cond.native ⟨"java/lang/Object", "clone", "()Ljava/lang/Object;"⟩).before a0 Z = true)
    (w4 : (Cond.instanceMethod ⟨"java/lang/Object", "clone", "()Ljava/lang/Object;"⟩).before a0 Z = true) (w5 : (Cond.selects ad ⟨ad, "clone", "()Ljava/lang/Object;"⟩ ⟨"java/lang/Object", "clone", "()Ljava/lang/Object;"⟩).before a0 Z = true) (w6 : (Cond.castable ad "java/lang/Cloneable").before a0 Z = true)
    (eT : T.heap = h) (V : Arv Z h a k ty z vs dv) (E : Exa Z h a ad) {g : JFrame} (hg : g.method = m) (hsize : g.locals.size = c.maxLocals) {rest : List Value} (hs : g.stack = .ref a :: rest) (hd : decode c.code g.pc = .ok (.invokevirtual index, 3))
    (hf : 1 ≤ R.frames) {W cap : Nat} (hW : 2 * g.monitorRoom + (rest.map fun v => v.category).sum ≤ W) (hl : W + 14 ≤ R.locals) (hcap : z.toNatClampNeg ≤ cap) (hc : cells + 1 ≤ R.cells) (hsl : slots + cap ≤ R.slots) :
    ∃ T' h', Stand p l e R s m args below meth c T' locs (cells + 1) (slots + cap) ∧ T'.heap = h' ∧ Ext h h' ∧ Arv Z h' h.size k ty z vs dv ∧ Exa Z h' h.size ad ∧
      ∀ target, Steps p.tables e below (T'.setTop { g with pc := g.pc + 3, stack := .ref h.size :: rest }) target → Steps p.tables e below (T.setTop g) target := by
  obtain ⟨cl, A, q1, q2, q3, H, G⟩ := V
  obtain ⟨T', h', X', e', E', A', Ea, st⟩ := cloneA X hx hZ hown w1 w2 w3 w4 w5 w6 eT A E (ofitc A H G) hg hsize hs hd hf hW hl (by rw [q2]; exact hcap) hc hsl
  exact ⟨T', h', X', e', E', ⟨cloneOf cl, A', q1, q2, q3, H, G⟩, Ea, st⟩
theorem osta_keep {C n d : String} {v : Value} {ws : List Addr} (F : Sta Z h C n d v) (K : Keep h h' ws) (hq : ∀ (st : Addr) (cell : Cell), h[st]? = some cell → cell.vm.isStatics = true → st ∉ ws) : Sta Z h' C n d v := by
  obtain ⟨cf, i, kk, f, st, cell, h1, h2, h3, h4, h5, h6, h7⟩ := F
  exact ⟨cf, i, kk, f, st, cell, h1, h2, h3, h4, K.2.1 st cell h5 (hq st cell h5 h6), h6, h7⟩
theorem osta_exa {C : String} {ws : List Addr} {o : Addr} (E : Exa Z h o C) (r : ∀ (st : Addr) (cell : Cell), h[st]? = some cell → cell.vm.isStatics = true → st ∉ ws) : ∀ (st : Addr) (cell : Cell), h[st]? = some cell → cell.vm.isStatics = true → st ∉ o :: ws := fun st cell h1 h2 => ninS (fun q => by
  subst q
  obtain ⟨c1, -, e1, -, -, e4, -⟩ := E
  cases e1.symm.trans h1
  rw [e4] at h2; cases h2) (r st cell h1 h2)
theorem osta_arr {cl : Cell} {ws : List Addr} {o : Addr} (A : Arr Z h o cl ty) (r : ∀ (st : Addr) (cell : Cell), h[st]? = some cell → cell.vm.isStatics = true → st ∉ ws) : ∀ (st : Addr) (cell : Cell), h[st]? = some cell → cell.vm.isStatics = true → st ∉ o :: ws := fun st cell h1 h2 => ninS (fun q => by
  subst q
  cases A.1.symm.trans h1
  have := A.plain
  rw [this] at h2; cases h2) (r st cell h1 h2)
theorem osta_arv {ws : List Addr} {o : Addr} (V : Arv Z h o k ty z vs dv) (r : ∀ (st : Addr) (cell : Cell), h[st]? = some cell → cell.vm.isStatics = true → st ∉ ws) : ∀ (st : Addr) (cell : Cell), h[st]? = some cell → cell.vm.isStatics = true → st ∉ o :: ws := by
  obtain ⟨cl, A, -⟩ := V; exact osta_arr A r
theorem oelem {t u : Term} {cl : Cell} {j : Int32} {w : Addr} (hh : (Cond.eq (Term.elem t (Term.int j)) u).value args Z none Z [] = some true) (ev : t.eval args Z none [] Z = some (.ref a)) (hc : Z.heap[a]? = some cl) (eu : u.eval args Z none [] Z = some (.ref w)) : cl.slots[j.toNatClampNeg]? = some (.ref w) := by
  obtain ⟨x, y, e1, e2, k1, k2⟩ := cmp_v (Or.inl hh)
  have q := elem_in e1 ev (Term.int_eval j) hc
  cases eu.symm.trans e2
  have hr : x.isRef = true := by cases x <;> simp_all [Kin, Value.isRef]
  have := gotT (eq_R e1 e2 hr rfl) hh
  rw [q.2, this]
theorem olen {t : Term} {cl : Cell} {n : Int32} (hh : (Cond.eq (Term.length t) (Term.int n)).value args Z none Z [] = some true) (ev : t.eval args Z none [] Z = some (.ref a)) (A : Arr Z Z.heap a cl ty) : cl.slots.size < 2 ^ 31 ∧ cl.slots.size.toInt32 = n := by
  obtain ⟨x, y, e1, e2, k1, k2⟩ := cmp_v (Or.inl hh)
  have hA := A.fin (Vm.Alike.refl _)
  by_cases hl : cl.slots.size < 2 ^ 31
  · refine ⟨hl, ?_⟩
    have q := len_f (args := args) (first := Z) (o := none) (idx := []) (s := Z) ev hA hl
    simp [Cond.value, q, Term.int_eval] at hh
    exact hh
  · simp [Term.eval, ev, hA, hl] at e1
end OwnArr
end Jvm.RoadKit
namespace Jvm.RoadKit
open Sem ClassFile Op Lib Jvm.Stand Jvm.Free Jvm.LawKit
section OwnW
variable {p : Program} {l : Launch} {e : Env} {R : Room} {s : State} {m : MethodId} {args : Array Value} {below : List Frame} {meth : Method} {c : Code} {T : State} {locs : List Loc} {cells slots : Nat}
/-- as OGo, the end in the wide frame -/
def OGoW (p : Program) (e : Env) (below : List Frame) (s : State) (Q : Option Value → Heap → List Loc → Prop) (C N : Nat) (t : State) : Prop :=
  ∃ s₂ o, Steps p.tables e below t s₂ ∧ s₂.status = .running ∧ Ended s₂ below o ∧ ∃ v L, o = .returned v ∧ Q v s₂.heap L ∧ ReturnedEndW s o s₂ L C N
theorem OGoW.st {Q : Option Value → Heap → List Loc → Prop} {C N : Nat} {t t' : State} (k : ∀ target, Steps p.tables e below t' target → Steps p.tables e below t target) (h : OGoW p e below s Q C N t') : OGoW p e below s Q C N t := by
  obtain ⟨s₂, o, a, r⟩ := h; exact ⟨s₂, o, k _ a, r⟩
theorem orew_mono {t : State} {o : Outcome} {L : List Loc} {k n k' n' : Nat} (h : ReturnedEndW s o t L k n) (h1 : k ≤ k') (h2 : n ≤ n') : ReturnedEndW s o t L k' n' := ⟨h.1, h.2.1, h.2.2.1, h.2.2.2.mono h1 h2⟩
theorem oretNW {Q : Option Value → Heap → List Loc → Prop} {C N : Nat} {vm₁ : Vm} {k1 : Nat} (X : Stand p l e R (s.setVm vm₁) m args below meth c T locs cells slots) (hx : p.tables.exec = Jvm.exec) (hS : s.Since vm₁ k1) (hk : k1 ≤ T.heap.size) (hlk : meth.locks = false) {pc : Nat} {Ls : Array Slot} {z z' : Int32} {t : FieldType} {rest : List Value} (hret : meth.sig.returnType = some t) (ht : t = .boolean ∨ t = .byte ∨ t = .char ∨ t = .short)
    (hd : decode c.code pc = .ok (.ireturn, 1)) (hz : nar t z = z') {h : Heap} (hh : T.heap = h) (hq : Q (some (.int z')) h locs) (hC : cells ≤ C) (hN : slots ≤ N) : OGoW p e below s Q C N (T.setTop (mkF m pc Ls (.int z :: rest))) := by
  subst hz
  obtain ⟨fs, hr, hrun, hended, hend⟩ := X.leaveW hS hk (v := some (.int (nar t z))) (fun h => by rw [hret] at h; cases h) hlk
  exact ⟨_, _, retN X hx hret ht hd hr, hrun, hended, _, _, rfl, hh ▸ hq, orew_mono hend hC hN⟩
end OwnW
end Jvm.RoadKit
namespace Jvm.Pilot.@@N@@
open Jvm Jvm.ClassFile Sem Op Lib Jvm.Free Jvm.Stand Jvm.LawKit Jvm.RoadKit Bundle Jvm.Pilot.@@N@@.Jvm.D

def own_at (l : List Int32) (i : Int32) : Int32 := l.getD i.toNatClampNeg 0
def own_lo : List Int32 := [48, 49, 50, 51, 52, 53, 54, 55, 56, 57, 97, 98, 99, 100, 101, 102]
def own_up : List Int32 := [48, 49, 50, 51, 52, 53, 54, 55, 56, 57, 65, 66, 67, 68, 69, 70]
theorem own_get (l : List Int32) (i : Int32) : (l.map Value.int).getD i.toNatClampNeg (.int (0 : Int32)) = .int (own_at l i) := by
  unfold own_at
  simp only [List.getD_eq_getElem?_getD, List.getElem?_map]
  cases l[i.toNatClampNeg]? <;> rfl
theorem d5_0 : decode jdk_41_method_11_code 0 = .ok (.iload_n 0, 1) := by decide +kernel
theorem d5_1 : decode jdk_41_method_11_code 1 = .ok (.ifCond .lt 8, 3) := by decide +kernel
theorem d5_4 : decode jdk_41_method_11_code 4 = .ok (.iload_n 0, 1) := by decide +kernel
theorem d5_5 : decode jdk_41_method_11_code 5 = .ok (.iload_n 1, 1) := by decide +kernel
theorem d5_6 : decode jdk_41_method_11_code 6 = .ok (.if_icmp .lt 10, 3) := by decide +kernel
theorem d5_16 : decode jdk_41_method_11_code 16 = .ok (.iload_n 0, 1) := by decide +kernel
theorem d5_17 : decode jdk_41_method_11_code 17 = .ok (.ireturn, 1) := by decide +kernel
theorem pn_5 : plainName "jdk/internal/util/Preconditions" = true := by first | (simp [plainName, overriddenIn]; done) | decide +kernel
theorem ef_5 (m : MethodId) (p0 : Int32) (p1 : Int32) (o2 : Value) (hr_o2 : o2.isRef = true) : entryFrame m #[(.int p0), (.int p1), o2] 3 = mkF m 0 #[.val (.int p0), .val (.int p1), .val o2] [] := by rcases ref_cases hr_o2 with rfl | ⟨_, rfl⟩ <;> first | (simp [entryFrame, mkF, argsToLocals, Value.category]; done) | rfl
def f5 (p0 : Int32) (p1 : Int32) : Int32 := (if p0 < (0 : Int32) then 0 else (if p0 < p1 then p0 else 0))
def Q5 (Z : State) (p0 : Int32) (p1 : Int32) (o2 : Value) (h0 : Heap) (n0 : Nat) (v : Option Value) (h : Heap) (L : List Loc) : Prop := v = some (.int (f5 p0 p1)) ∧ Fr n0 L ∧ h = h0
set_option maxRecDepth 65536 in
set_option maxHeartbeats 40000000 in
theorem rm5 (l : Launch) (Z : State) (a0 : Array Value) (hw : ∀ d ∈ tables_1, d.before a0 Z = true) (ws : List Jvm.Cond) (p0 : Int32) (p1 : Int32) (o2 : Value) (h0 : Heap) (n0 : Nat) (Z0 : n0 ≤ h0.size) (hp1 : ¬ (p0 < (0 : Int32))) (hp2 : p0 < p1) (hr_o2 : o2.isRef = true) :
    MetFree l (⟨"jdk/internal/util/Preconditions", "checkIndex", "(IILjava/util/function/BiFunction;)I"⟩ : MethodName) (head1 (Jvm.Cond.code (⟨"jdk/internal/util/Preconditions", "checkIndex", "(IILjava/util/function/BiFunction;)I"⟩ : MethodName) jdk_41_method_11_code 3 (some .int) :: ws) ({ frames := 0, cells := 0, slots := 0, locals := 0 } : Room)) (fun a U => a = #[(.int p0), (.int p1), o2] ∧ Z.Warmed39 U.vm ∧ U.heap = h0) (fun _ _ _ _ _ => True) (fun _ U o U' => ∃ v L, o = .returned v ∧ Q5 Z p0 p1 o2 h0 n0 v U'.heap L ∧ FrameEnd U o U' L ({ frames := 0, cells := 0, slots := 0, locals := 0 } : Room).cells ({ frames := 0, cells := 0, slots := 0, locals := 0 } : Room).slots) := by
  refine MetFree.of_bodySF (plainFor_of_name pn_5) hisR ?_
  intro p e s m args below meth c s₁ Bd hml0 hP hK
  obtain ⟨rfl, hZ, hh⟩ := hP
  have hx := Bd.exec
  have hby := Bd.bytes
  have hml : c.maxLocals = 3 := hml0
  have hown : s.vm.findClass "jdk/internal/util/Preconditions" = some m.cls := findClass_of_methodNamed Bd.named
  have hnm := (name_of_methodNamed Bd.named Bd.method).1
  have X0 : Stand p l e ({ frames := 0, cells := 0, slots := 0, locals := 0 } : Room) s m #[(.int p0), (.int p1), o2] below meth c s₁ [] 0 0 := Stand.of_body Bd
  have e0 : s₁.heap = h0 := by rw [← hh, Bd.state]; rfl
  have N0 := Fr.nil n0
  show OGo p e below s (Q5 Z p0 p1 o2 h0 n0) ({ frames := 0, cells := 0, slots := 0, locals := 0 } : Room).cells ({ frames := 0, cells := 0, slots := 0, locals := 0 } : Room).slots _
  refine OGo.st (fun _ k => castTop (ef_5 m p0 p1 o2 hr_o2) k) ?_
  show OGo p e below s _ _ _ (s₁.setTop (mkF m 0 #[.val (.int p0), .val (.int p1), .val o2] []))
  refine OGo.st (fun _ k => XS.iloadN X0.here hx rfl (hb hby d5_0) rfl k) ?_
  show OGo p e below s _ _ _ (s₁.setTop (mkF m 1 #[.val (.int p0), .val (.int p1), .val o2] [(.int p0)]))
  by_cases hc1 : p0 < (0 : Int32)
  · refine OGo.st (fun _ k => XS.ifYes X0.here hx rfl (pc0 := 1) (pc' := 9) rfl (hb hby d5_1) rfl ((if0 _ _).trans (tlt hc1).1) (by decide) (by decide) k) ?_
    show OGo p e below s _ _ _ (s₁.setTop (mkF m 9 #[.val (.int p0), .val (.int p1), .val o2] []))
    first | exact absurd hc1 hp1 | exact absurd hp2 hc6
  · refine OGo.st (fun _ k => XS.ifNo X0.here hx rfl (hb hby d5_1) rfl ((if0 _ _).trans (flt hc1).1) k) ?_
    show OGo p e below s _ _ _ (s₁.setTop (mkF m 4 #[.val (.int p0), .val (.int p1), .val o2] []))
    refine OGo.st (fun _ k => XS.iloadN X0.here hx rfl (hb hby d5_4) rfl k) ?_
    show OGo p e below s _ _ _ (s₁.setTop (mkF m 5 #[.val (.int p0), .val (.int p1), .val o2] [(.int p0)]))
    refine OGo.st (fun _ k => XS.iloadN X0.here hx rfl (hb hby d5_5) rfl k) ?_
    show OGo p e below s _ _ _ (s₁.setTop (mkF m 6 #[.val (.int p0), .val (.int p1), .val o2] [(.int p1), (.int p0)]))
    by_cases hc6 : p0 < p1
    · refine OGo.st (fun _ k => XS.icmpYes X0.here hx rfl (pc0 := 6) (pc' := 16) rfl (hb hby d5_6) rfl (tlt hc6).1 (by decide) (by decide) k) ?_
      show OGo p e below s _ _ _ (s₁.setTop (mkF m 16 #[.val (.int p0), .val (.int p1), .val o2] []))
      refine OGo.st (fun _ k => XS.iloadN X0.here hx rfl (hb hby d5_16) rfl k) ?_
      show OGo p e below s _ _ _ (s₁.setTop (mkF m 17 #[.val (.int p0), .val (.int p1), .val o2] [(.int p0)]))
      exact oretI X0 hx Bd.notSynchronized Bd.returns (hb hby d5_17) e0 ⟨(congrArg (fun z => some (Value.int z)) (show p0 = f5 p0 p1 from Eq.symm (by unfold f5; exact (if_neg hc1).trans (if_pos hc6)))), N0, rfl⟩ (by decide) (by decide)
    · refine OGo.st (fun _ k => XS.icmpNo X0.here hx rfl (hb hby d5_6) rfl (flt hc6).1 k) ?_
      show OGo p e below s _ _ _ (s₁.setTop (mkF m 9 #[.val (.int p0), .val (.int p1), .val o2] []))
      first | exact absurd hc1 hp1 | exact absurd hp2 hc6
theorem d4_0 : decode jdk_42_method_155_code 0 = .ok (.iload_n 0, 1) := by decide +kernel
theorem d4_1 : decode jdk_42_method_155_code 1 = .ok (.iload_n 1, 1) := by decide +kernel
theorem d4_2 : decode jdk_42_method_155_code 2 = .ok (.getstatic 1053, 3) := by decide +kernel
theorem d4_5 : decode jdk_42_method_155_code 5 = .ok (.invokestatic 1059, 3) := by decide +kernel
theorem d4_8 : decode jdk_42_method_155_code 8 = .ok (.pop, 1) := by decide +kernel
theorem d4_9 : decode jdk_42_method_155_code 9 = .ok (.return_, 1) := by decide +kernel
theorem pn_4 : plainName "java/lang/String" = true := by first | (simp [plainName, overriddenIn]; done) | decide +kernel
theorem pd_4_0 : parseMethodDescriptor "(IILjava/util/function/BiFunction;)I" = some ⟨[.int, .int, (.object "java/util/function/BiFunction")], some .int⟩ := by decide +kernel
theorem ef_4 (m : MethodId) (p0 : Int32) (p1 : Int32) : entryFrame m #[(.int p0), (.int p1)] 2 = mkF m 0 #[.val (.int p0), .val (.int p1)] [] := by first | (simp [entryFrame, mkF, argsToLocals, Value.category]; done) | rfl
def Q4 (Z : State) (p0 : Int32) (p1 : Int32) (w_F : Value) (h0 : Heap) (n0 : Nat) (v : Option Value) (h : Heap) (L : List Loc) : Prop := v = none ∧ Fr n0 L ∧ h = h0
set_option maxRecDepth 65536 in
set_option maxHeartbeats 40000000 in
theorem rm4 (l : Launch) (Z : State) (a0 : Array Value) (hw : ∀ d ∈ tables_1, d.before a0 Z = true) (ws : List Jvm.Cond) (p0 : Int32) (p1 : Int32) (w_F : Value) (h0 : Heap) (n0 : Nat) (Z0 : n0 ≤ h0.size) (S_F : Sta Z h0 "jdk/internal/util/Preconditions" "SIOOBE_FORMATTER" "Ljava/util/function/BiFunction;" w_F) (hp1 : ¬ (p0 < (0 : Int32))) (hp2 : p0 < p1) (hr_w_F : w_F.isRef = true) :
    MetFree l (⟨"java/lang/String", "checkIndex", "(II)V"⟩ : MethodName) (head1 (Jvm.Cond.code (⟨"java/lang/String", "checkIndex", "(II)V"⟩ : MethodName) jdk_42_method_155_code 2 none :: ws) ({ frames := 1, cells := 0, slots := 0, locals := 14 } : Room)) (fun a U => a = #[(.int p0), (.int p1)] ∧ Z.Warmed39 U.vm ∧ U.heap = h0) (fun _ _ _ _ _ => True) (fun _ U o U' => ∃ v L, o = .returned v ∧ Q4 Z p0 p1 w_F h0 n0 v U'.heap L ∧ FrameEnd U o U' L ({ frames := 1, cells := 0, slots := 0, locals := 14 } : Room).cells ({ frames := 1, cells := 0, slots := 0, locals := 14 } : Room).slots) := by
  refine MetFree.of_bodySF (plainFor_of_name pn_4) hisR ?_
  intro p e s m args below meth c s₁ Bd hml0 hP hK
  obtain ⟨rfl, hZ, hh⟩ := hP
  have hx := Bd.exec
  have hby := Bd.bytes
  have hml : c.maxLocals = 2 := hml0
  have hown : s.vm.findClass "java/lang/String" = some m.cls := findClass_of_methodNamed Bd.named
  have hnm := (name_of_methodNamed Bd.named Bd.method).1
  have X0 : Stand p l e ({ frames := 1, cells := 0, slots := 0, locals := 14 } : Room) s m #[(.int p0), (.int p1)] below meth c s₁ [] 0 0 := Stand.of_body Bd
  have e0 : s₁.heap = h0 := by rw [← hh, Bd.state]; rfl
  have N0 := Fr.nil n0
  show OGo p e below s (Q4 Z p0 p1 w_F h0 n0) ({ frames := 1, cells := 0, slots := 0, locals := 14 } : Room).cells ({ frames := 1, cells := 0, slots := 0, locals := 14 } : Room).slots _
  refine OGo.st (fun _ k => castTop (ef_4 m p0 p1) k) ?_
  show OGo p e below s _ _ _ (s₁.setTop (mkF m 0 #[.val (.int p0), .val (.int p1)] []))
  refine OGo.st (fun _ k => XS.iloadN X0.here hx rfl (hb hby d4_0) rfl k) ?_
  show OGo p e below s _ _ _ (s₁.setTop (mkF m 1 #[.val (.int p0), .val (.int p1)] [(.int p0)]))
  refine OGo.st (fun _ k => XS.iloadN X0.here hx rfl (hb hby d4_1) rfl k) ?_
  show OGo p e below s _ _ _ (s₁.setTop (mkF m 2 #[.val (.int p0), .val (.int p1)] [(.int p1), (.int p0)]))
  obtain ⟨T1, X1, e1, st1⟩ := getS2 X0 hx hZ hown (host := "") (Or.inl (hw _ (List.mem_of_getElem? (i := 29) rfl))) Via.refl e0 S_F (g := (mkF m 2 #[.val (.int p0), .val (.int p1)] [(.int p1), (.int p0)])) rfl (hb hby d4_2)
  refine OGo.st st1 ?_
  show OGo p e below s _ _ _ (T1.setTop (mkF m 5 #[.val (.int p0), .val (.int p1)] [w_F, (.int p1), (.int p0)]))
  obtain ⟨_, _, ⟨T2, L2, k2, n2⟩, -, X2, ⟨Lc2, hQ2, l2, y2, z2⟩, st2⟩ := Jvm.LawKit.callS X1 hx (y := (⟨"jdk/internal/util/Preconditions", "checkIndex", "(IILjava/util/function/BiFunction;)I"⟩ : MethodName)) hown (mvT hZ (hw _ (List.mem_of_getElem? (i := 31) rfl))) (mvT hZ (hw _ (List.mem_of_getElem? (i := 32) rfl))) (mvT hZ (hw _ (List.mem_of_getElem? (i := 30) rfl))) (mvT hZ (hw _ (List.mem_of_getElem? (i := 33) rfl))) (by decide) (backOf (W := 0) (rm5 l Z a0 hw [] p0 p1 w_F h0 n0 Z0 hp1 hp2 hr_w_F) hZ (hw _ (List.mem_of_getElem? (i := 33) rfl)) (hw _ (List.mem_of_getElem? (i := 30) rfl)) (by decide) (by decide)) (g := (mkF m 5 #[.val (.int p0), .val (.int p1)] [w_F, (.int p1), (.int p0)])) rfl (by rw [hml]; rfl) (argsL := [(.int p0), (.int p1), w_F]) (rest := []) (lenOf pd_4_0 rfl) rfl (by show 2 * 0 + _ ≤ _; exact Nat.le_of_eq rfl) (hb hby d4_5) (fun _ _ => ⟨rfl, e1, (by decide : 0 + 0 ≤ _), (by decide : 0 + 0 ≤ _)⟩)
  dsimp only [Pt.U, Pt.locs, Pt.cells, Pt.slots] at X2 l2 y2 z2 st2 hQ2
  subst l2 y2 z2
  obtain ⟨rfl, N2q, e2⟩ := hQ2
  have N2 := Fr.app N0 N2q
  refine OGo.st st2 ?_
  show OGo p e below s _ _ _ (T2.setTop (mkF m 8 #[.val (.int p0), .val (.int p1)] [(.int (f5 p0 p1))]))
  refine OGo.st (fun _ k => XS.pop X2.here hx rfl (hb hby d4_8) rfl rfl k) ?_
  show OGo p e below s _ _ _ (T2.setTop (mkF m 9 #[.val (.int p0), .val (.int p1)] []))
  exact oret0 X2 hx Bd.notSynchronized Bd.returns (hb hby d4_9) e2 ⟨rfl, N2, rfl⟩ (by decide) (by decide)
theorem d2_0 : decode jdk_42_method_154_code 0 = .ok (.getstatic 38, 3) := by decide +kernel
theorem d2_3 : decode jdk_42_method_154_code 3 = .ok (.ifCond .eq 14, 3) := by decide +kernel
theorem d2_6 : decode jdk_42_method_154_code 6 = .ok (.aload_n 0, 1) := by decide +kernel
theorem d2_7 : decode jdk_42_method_154_code 7 = .ok (.getfield 15, 3) := by decide +kernel
theorem d2_10 : decode jdk_42_method_154_code 10 = .ok (.ifCond .ne 7, 3) := by decide +kernel
theorem d2_13 : decode jdk_42_method_154_code 13 = .ok (.iconst 1, 1) := by decide +kernel
theorem d2_14 : decode jdk_42_method_154_code 14 = .ok (.goto 4, 3) := by decide +kernel
theorem d2_18 : decode jdk_42_method_154_code 18 = .ok (.ireturn, 1) := by decide +kernel
theorem pn_2 : plainName "java/lang/String" = true := by first | (simp [plainName, overriddenIn]; done) | decide +kernel
theorem ef_2 (m : MethodId) (o0 : Addr) : entryFrame m #[(.ref o0)] 1 = mkF m 0 #[.val (.ref o0)] [] := by first | (simp [entryFrame, mkF, argsToLocals, Value.category]; done) | rfl
def f2 : Int32 := (1 : Int32)
def Q2 (Z : State) (o0 : Addr) (w_CS : Int32) (h0 : Heap) (n0 : Nat) (v : Option Value) (h : Heap) (L : List Loc) : Prop := v = some (.int (f2)) ∧ Fr n0 L ∧ h = h0
set_option maxRecDepth 65536 in
set_option maxHeartbeats 40000000 in
theorem rm2 (l : Launch) (Z : State) (a0 : Array Value) (hw : ∀ d ∈ tables_1, d.before a0 Z = true) (ws : List Jvm.Cond) (o0 : Addr) (w_CS : Int32) (h0 : Heap) (n0 : Nat) (Z0 : n0 ≤ h0.size) (S_CS : Sta Z h0 "java/lang/String" "COMPACT_STRINGS" "Z" (.int w_CS)) (E_o0 : Exa Z h0 o0 "java/lang/String") (F_coder : Fld Z h0 o0 "java/lang/String" "coder" "B" (.int (0 : Int32))) (hcs : ¬ (w_CS = (0 : Int32))) :
    MetFree l (⟨"java/lang/String", "isLatin1", "()Z"⟩ : MethodName) (head1 (Jvm.Cond.code (⟨"java/lang/String", "isLatin1", "()Z"⟩ : MethodName) jdk_42_method_154_code 1 (some .boolean) :: ws) ({ frames := 0, cells := 0, slots := 0, locals := 0 } : Room)) (fun a U => a = #[(.ref o0)] ∧ Z.Warmed39 U.vm ∧ U.heap = h0) (fun _ _ _ _ _ => True) (fun _ U o U' => ∃ v L, o = .returned v ∧ Q2 Z o0 w_CS h0 n0 v U'.heap L ∧ FrameEnd U o U' L ({ frames := 0, cells := 0, slots := 0, locals := 0 } : Room).cells ({ frames := 0, cells := 0, slots := 0, locals := 0 } : Room).slots) := by
  refine MetFree.of_bodySF (plainFor_of_name pn_2) hisR ?_
  intro p e s m args below meth c s₁ Bd hml0 hP hK
  obtain ⟨rfl, hZ, hh⟩ := hP
  have hx := Bd.exec
  have hby := Bd.bytes
  have hml : c.maxLocals = 1 := hml0
  have hown : s.vm.findClass "java/lang/String" = some m.cls := findClass_of_methodNamed Bd.named
  have hnm := (name_of_methodNamed Bd.named Bd.method).1
  have X0 : Stand p l e ({ frames := 0, cells := 0, slots := 0, locals := 0 } : Room) s m #[(.ref o0)] below meth c s₁ [] 0 0 := Stand.of_body Bd
  have e0 : s₁.heap = h0 := by rw [← hh, Bd.state]; rfl
  have N0 := Fr.nil n0
  show OGo p e below s (Q2 Z o0 w_CS h0 n0) ({ frames := 0, cells := 0, slots := 0, locals := 0 } : Room).cells ({ frames := 0, cells := 0, slots := 0, locals := 0 } : Room).slots _
  refine OGo.st (fun _ k => castTop (ef_2 m o0) k) ?_
  show OGo p e below s _ _ _ (s₁.setTop (mkF m 0 #[.val (.ref o0)] []))
  obtain ⟨T1, X1, e1, st1⟩ := getS2 X0 hx hZ hown (host := "") (Or.inl (hw _ (List.mem_of_getElem? (i := 19) rfl))) Via.refl e0 S_CS (g := (mkF m 0 #[.val (.ref o0)] [])) rfl (hb hby d2_0)
  refine OGo.st st1 ?_
  show OGo p e below s _ _ _ (T1.setTop (mkF m 3 #[.val (.ref o0)] [(.int w_CS)]))
  refine OGo.st (fun _ k => XS.ifNo X1.here hx rfl (hb hby d2_3) rfl ((if0 _ _).trans (feq hcs).1) k) ?_
  show OGo p e below s _ _ _ (T1.setTop (mkF m 6 #[.val (.ref o0)] []))
  refine OGo.st (fun _ k => XS.aloadN X1.here hx rfl (hb hby d2_6) rfl rfl k) ?_
  show OGo p e below s _ _ _ (T1.setTop (mkF m 7 #[.val (.ref o0)] [(.ref o0)]))
  obtain ⟨T2, X2, e2, st2⟩ := getF X1 hx hZ hown (host := "") (Or.inl (hw _ (List.mem_of_getElem? (i := 20) rfl))) Via.refl e1 F_coder (g := (mkF m 7 #[.val (.ref o0)] [(.ref o0)])) rfl rfl (hb hby d2_7)
  refine OGo.st st2 ?_
  show OGo p e below s _ _ _ (T2.setTop (mkF m 10 #[.val (.ref o0)] [(.int (0 : Int32))]))
  refine OGo.st (fun _ k => XS.ifNo X2.here hx rfl (hb hby d2_10) rfl ((if0 _ _).trans (teq (by decide : (0 : Int32) = (0 : Int32))).2) k) ?_
  show OGo p e below s _ _ _ (T2.setTop (mkF m 13 #[.val (.ref o0)] []))
  refine OGo.st (fun _ k => XS.iconst X2.here hx rfl (hb hby d2_13) k) ?_
  show OGo p e below s _ _ _ (T2.setTop (mkF m 14 #[.val (.ref o0)] [(.int (1 : Int32))]))
  refine OGo.st (fun _ k => XS.goto X2.here hx rfl (pc0 := 14) (pc' := 18) rfl (hb hby d2_14) (by decide) (by decide) k) ?_
  show OGo p e below s _ _ _ (T2.setTop (mkF m 18 #[.val (.ref o0)] [(.int (1 : Int32))]))
  exact oretN X2 hx Bd.notSynchronized (t := .boolean) Bd.returns (by simp) (hb hby d2_18) (z' := (1 : Int32)) (by decide) e2 ⟨(congrArg (fun z => some (Value.int z)) (show (1 : Int32) = f2 from Eq.symm (by unfold f2; exact rfl))), N0, rfl⟩ (by decide) (by decide)
theorem d3_0 : decode jdk_43_method_2_code 0 = .ok (.iload_n 1, 1) := by decide +kernel
theorem d3_1 : decode jdk_43_method_2_code 1 = .ok (.aload_n 0, 1) := by decide +kernel
theorem d3_2 : decode jdk_43_method_2_code 2 = .ok (.arraylength, 1) := by decide +kernel
theorem d3_3 : decode jdk_43_method_2_code 3 = .ok (.invokestatic 9, 3) := by decide +kernel
theorem d3_6 : decode jdk_43_method_2_code 6 = .ok (.aload_n 0, 1) := by decide +kernel
theorem d3_7 : decode jdk_43_method_2_code 7 = .ok (.iload_n 1, 1) := by decide +kernel
theorem d3_8 : decode jdk_43_method_2_code 8 = .ok (.baload, 1) := by decide +kernel
theorem d3_9 : decode jdk_43_method_2_code 9 = .ok (.sipush 255, 3) := by decide +kernel
theorem d3_12 : decode jdk_43_method_2_code 12 = .ok (.iand, 1) := by decide +kernel
theorem d3_13 : decode jdk_43_method_2_code 13 = .ok (.i2c, 1) := by decide +kernel
theorem d3_14 : decode jdk_43_method_2_code 14 = .ok (.ireturn, 1) := by decide +kernel
theorem pn_3 : plainName "java/lang/StringLatin1" = true := by first | (simp [plainName, overriddenIn]; done) | decide +kernel
theorem pd_3lo_0 : parseMethodDescriptor "(II)V" = some ⟨[.int, .int], none⟩ := by decide +kernel
theorem ef_3lo (m : MethodId) (o0 : Addr) (p1 : Int32) : entryFrame m #[(.ref o0), (.int p1)] 2 = mkF m 0 #[.val (.ref o0), .val (.int p1)] [] := by first | (simp [entryFrame, mkF, argsToLocals, Value.category]; done) | rfl
def f3lo (p1 : Int32) : Int32 := (nar .char (((own_at own_lo p1) &&& (255 : Int32)).toUInt32.toUInt16.toUInt32.toInt32))
def Q3lo (Z : State) (o0 : Addr) (p1 : Int32) (k_a : ClassId) (w_F : Value) (h0 : Heap) (n0 : Nat) (v : Option Value) (h : Heap) (L : List Loc) : Prop := v = some (.int (f3lo p1)) ∧ Fr n0 L ∧ h = h0
set_option maxRecDepth 65536 in
set_option maxHeartbeats 40000000 in
theorem rm3lo (l : Launch) (Z : State) (a0 : Array Value) (hw : ∀ d ∈ tables_1, d.before a0 Z = true) (ws : List Jvm.Cond) (o0 : Addr) (p1 : Int32) (k_a : ClassId) (w_F : Value) (h0 : Heap) (n0 : Nat) (Z0 : n0 ≤ h0.size) (V_o0 : Arv Z h0 o0 k_a .byte (16 : Int32) [(.int (48 : Int32)), (.int (49 : Int32)), (.int (50 : Int32)), (.int (51 : Int32)), (.int (52 : Int32)), (.int (53 : Int32)), (.int (54 : Int32)), (.int (55 : Int32)), (.int (56 : Int32)), (.int (57 : Int32)), (.int (97 : Int32)), (.int (98 : Int32)), (.int (99 : Int32)), (.int (100 : Int32)), (.int (101 : Int32)), (.int (102 : Int32))] (.int (0 : Int32))) (S_F : Sta Z h0 "jdk/internal/util/Preconditions" "SIOOBE_FORMATTER" "Ljava/util/function/BiFunction;" w_F) (hp1 : ¬ (p1 < (0 : Int32))) (hp2 : p1 < (16 : Int32)) (hr_w_F : w_F.isRef = true) :
    MetFree l (⟨"java/lang/StringLatin1", "charAt", "([BI)C"⟩ : MethodName) (head1 (Jvm.Cond.code (⟨"java/lang/StringLatin1", "charAt", "([BI)C"⟩ : MethodName) jdk_43_method_2_code 2 (some .char) :: ws) ({ frames := 2, cells := 0, slots := 0, locals := 27 } : Room)) (fun a U => a = #[(.ref o0), (.int p1)] ∧ Z.Warmed39 U.vm ∧ U.heap = h0) (fun _ _ _ _ _ => True) (fun _ U o U' => ∃ v L, o = .returned v ∧ Q3lo Z o0 p1 k_a w_F h0 n0 v U'.heap L ∧ FrameEnd U o U' L ({ frames := 2, cells := 0, slots := 0, locals := 27 } : Room).cells ({ frames := 2, cells := 0, slots := 0, locals := 27 } : Room).slots) := by
  refine MetFree.of_bodySF (plainFor_of_name pn_3) hisR ?_
  intro p e s m args below meth c s₁ Bd hml0 hP hK
  obtain ⟨rfl, hZ, hh⟩ := hP
  have hx := Bd.exec
  have hby := Bd.bytes
  have hml : c.maxLocals = 2 := hml0
  have hown : s.vm.findClass "java/lang/StringLatin1" = some m.cls := findClass_of_methodNamed Bd.named
  have hnm := (name_of_methodNamed Bd.named Bd.method).1
  have X0 : Stand p l e ({ frames := 2, cells := 0, slots := 0, locals := 27 } : Room) s m #[(.ref o0), (.int p1)] below meth c s₁ [] 0 0 := Stand.of_body Bd
  have e0 : s₁.heap = h0 := by rw [← hh, Bd.state]; rfl
  have N0 := Fr.nil n0
  show OGo p e below s (Q3lo Z o0 p1 k_a w_F h0 n0) ({ frames := 2, cells := 0, slots := 0, locals := 27 } : Room).cells ({ frames := 2, cells := 0, slots := 0, locals := 27 } : Room).slots _
  refine OGo.st (fun _ k => castTop (ef_3lo m o0 p1) k) ?_
  show OGo p e below s _ _ _ (s₁.setTop (mkF m 0 #[.val (.ref o0), .val (.int p1)] []))
  refine OGo.st (fun _ k => XS.iloadN X0.here hx rfl (hb hby d3_0) rfl k) ?_
  show OGo p e below s _ _ _ (s₁.setTop (mkF m 1 #[.val (.ref o0), .val (.int p1)] [(.int p1)]))
  refine OGo.st (fun _ k => XS.aloadN X0.here hx rfl (hb hby d3_1) rfl rfl k) ?_
  show OGo p e below s _ _ _ (s₁.setTop (mkF m 2 #[.val (.ref o0), .val (.int p1)] [(.ref o0), (.int p1)]))
  obtain ⟨cl1, Ar1, -, Sz1, Nn1, -, -⟩ := id V_o0
  refine OGo.st (fun _ k => X0.arraylength hx (by rw [e0]; exact Ar1.1) (State.isArrayOf_alike hZ.alike Ar1.2.1) (g := (mkF m 2 #[.val (.ref o0), .val (.int p1)] [(.ref o0), (.int p1)])) rfl rfl (hb hby d3_2) _ k) ?_
  rw [len_of Sz1 Nn1]
  show OGo p e below s _ _ _ (s₁.setTop (mkF m 3 #[.val (.ref o0), .val (.int p1)] [(.int (16 : Int32)), (.int p1)]))
  obtain ⟨_, _, ⟨T2, L2, k2, n2⟩, -, X2, ⟨Lc2, hQ2, l2, y2, z2⟩, st2⟩ := Jvm.LawKit.callS X0 hx (y := (⟨"java/lang/String", "checkIndex", "(II)V"⟩ : MethodName)) hown (mvT hZ (hw _ (List.mem_of_getElem? (i := 26) rfl))) (mvT hZ (hw _ (List.mem_of_getElem? (i := 27) rfl))) (mvT hZ (hw _ (List.mem_of_getElem? (i := 1) rfl))) (mvT hZ (hw _ (List.mem_of_getElem? (i := 28) rfl))) (by decide) (backOf (W := 0) (rm4 l Z a0 hw [] p1 (16 : Int32) w_F h0 n0 Z0 S_F hp1 hp2 hr_w_F) hZ (hw _ (List.mem_of_getElem? (i := 28) rfl)) (hw _ (List.mem_of_getElem? (i := 1) rfl)) (by decide) (by decide)) (g := (mkF m 3 #[.val (.ref o0), .val (.int p1)] [(.int (16 : Int32)), (.int p1)])) rfl (by rw [hml]; rfl) (argsL := [(.int p1), (.int (16 : Int32))]) (rest := []) (lenOf pd_3lo_0 rfl) rfl (by show 2 * 0 + _ ≤ _; exact Nat.le_of_eq rfl) (hb hby d3_3) (fun _ _ => ⟨rfl, e0, (by decide : 0 + 0 ≤ _), (by decide : 0 + 0 ≤ _)⟩)
  dsimp only [Pt.U, Pt.locs, Pt.cells, Pt.slots] at X2 l2 y2 z2 st2 hQ2
  subst l2 y2 z2
  obtain ⟨rfl, N2q, e2⟩ := hQ2
  have N2 := Fr.app N0 N2q
  refine OGo.st st2 ?_
  show OGo p e below s _ _ _ (T2.setTop (mkF m 6 #[.val (.ref o0), .val (.int p1)] []))
  refine OGo.st (fun _ k => XS.aloadN X2.here hx rfl (hb hby d3_6) rfl rfl k) ?_
  show OGo p e below s _ _ _ (T2.setTop (mkF m 7 #[.val (.ref o0), .val (.int p1)] [(.ref o0)]))
  refine OGo.st (fun _ k => XS.iloadN X2.here hx rfl (hb hby d3_7) rfl k) ?_
  show OGo p e below s _ _ _ (T2.setTop (mkF m 8 #[.val (.ref o0), .val (.int p1)] [(.int p1), (.ref o0)]))
  obtain ⟨cl3, Ar3, q3, Sz3, Nn3, Hs3, Gs3⟩ := id V_o0
  have hin3 : ¬ (p1 < 0 ∨ cl3.slots.size ≤ (p1).toNatClampNeg) := inb_of Sz3 ⟨hp1, hp2⟩
  have hat3 : cl3.slots[(p1).toNatClampNeg]? = some (.int (own_at own_lo p1)) := Hs3.at hin3 (own_get own_lo p1)
  refine OGo.st (fun _ k => X2.baloadBytes hx (j := p1) (v := (.int (own_at own_lo p1))) (by rw [e2]; exact Ar3.1) (State.isArrayOf_alike hZ.alike Ar3.2.1) Ar3.2.2 hin3 hat3 (g := (mkF m 8 #[.val (.ref o0), .val (.int p1)] [(.int p1), (.ref o0)])) rfl rfl (hb hby d3_8) _ k) ?_
  show OGo p e below s _ _ _ (T2.setTop (mkF m 9 #[.val (.ref o0), .val (.int p1)] [(.int (own_at own_lo p1))]))
  refine OGo.st (fun _ k => XS.sipush X2.here hx rfl (hb hby d3_9) k) ?_
  show OGo p e below s _ _ _ (T2.setTop (mkF m 12 #[.val (.ref o0), .val (.int p1)] [(.int (255 : Int32)), (.int (own_at own_lo p1))]))
  refine OGo.st (fun _ k => XS.iand X2.here hx rfl (hb hby d3_12) rfl k) ?_
  show OGo p e below s _ _ _ (T2.setTop (mkF m 13 #[.val (.ref o0), .val (.int p1)] [(.int ((own_at own_lo p1) &&& (255 : Int32)))]))
  refine OGo.st (fun _ k => XS.i2c X2.here hx rfl (hb hby d3_13) rfl k) ?_
  show OGo p e below s _ _ _ (T2.setTop (mkF m 14 #[.val (.ref o0), .val (.int p1)] [(.int (((own_at own_lo p1) &&& (255 : Int32)).toUInt32.toUInt16.toUInt32.toInt32))]))
  exact oretN X2 hx Bd.notSynchronized (t := .char) Bd.returns (by simp) (hb hby d3_14) rfl e2 ⟨(congrArg (fun z => some (Value.int z)) (show (nar .char (((own_at own_lo p1) &&& (255 : Int32)).toUInt32.toUInt16.toUInt32.toInt32)) = f3lo p1 from Eq.symm (by unfold f3lo; exact rfl))), N2, rfl⟩ (by decide) (by decide)
theorem d1_0 : decode jdk_42_method_56_code 0 = .ok (.aload_n 0, 1) := by decide +kernel
theorem d1_1 : decode jdk_42_method_56_code 1 = .ok (.invokevirtual 492, 3) := by decide +kernel
theorem d1_4 : decode jdk_42_method_56_code 4 = .ok (.ifCond .eq 12, 3) := by decide +kernel
theorem d1_7 : decode jdk_42_method_56_code 7 = .ok (.aload_n 0, 1) := by decide +kernel
theorem d1_8 : decode jdk_42_method_56_code 8 = .ok (.getfield 9, 3) := by decide +kernel
theorem d1_11 : decode jdk_42_method_56_code 11 = .ok (.iload_n 1, 1) := by decide +kernel
theorem d1_12 : decode jdk_42_method_56_code 12 = .ok (.invokestatic 495, 3) := by decide +kernel
theorem d1_15 : decode jdk_42_method_56_code 15 = .ok (.ireturn, 1) := by decide +kernel
theorem pn_1 : plainName "java/lang/String" = true := by first | (simp [plainName, overriddenIn]; done) | decide +kernel
theorem pd_1lo_0 : parseMethodDescriptor "()Z" = some ⟨[], some .boolean⟩ := by decide +kernel
theorem pd_1lo_1 : parseMethodDescriptor "([BI)C" = some ⟨[(.array .byte), .int], some .char⟩ := by decide +kernel
theorem ef_1lo (m : MethodId) (o0 : Addr) (p1 : Int32) : entryFrame m #[(.ref o0), (.int p1)] 2 = mkF m 0 #[.val (.ref o0), .val (.int p1)] [] := by first | (simp [entryFrame, mkF, argsToLocals, Value.category]; done) | rfl
def f1lo (p1 : Int32) : Int32 := (nar .char (f3lo p1))
def Q1lo (Z : State) (o0 : Addr) (p1 : Int32) (u_a : Addr) (k_a : ClassId) (w_F : Value) (w_CS : Int32) (h0 : Heap) (n0 : Nat) (v : Option Value) (h : Heap) (L : List Loc) : Prop := v = some (.int (f1lo p1)) ∧ Fr n0 L ∧ h = h0
set_option maxRecDepth 65536 in
set_option maxHeartbeats 40000000 in
theorem rm1lo (l : Launch) (Z : State) (a0 : Array Value) (hw : ∀ d ∈ tables_1, d.before a0 Z = true) (ws : List Jvm.Cond) (o0 : Addr) (p1 : Int32) (u_a : Addr) (k_a : ClassId) (w_F : Value) (w_CS : Int32) (h0 : Heap) (n0 : Nat) (Z0 : n0 ≤ h0.size) (E_o0 : Exa Z h0 o0 "java/lang/String") (F_coder : Fld Z h0 o0 "java/lang/String" "coder" "B" (.int (0 : Int32))) (F_value : Fld Z h0 o0 "java/lang/String" "value" "[B" (.ref u_a)) (V_u : Arv Z h0 u_a k_a .byte (16 : Int32) [(.int (48 : Int32)), (.int (49 : Int32)), (.int (50 : Int32)), (.int (51 : Int32)), (.int (52 : Int32)), (.int (53 : Int32)), (.int (54 : Int32)), (.int (55 : Int32)), (.int (56 : Int32)), (.int (57 : Int32)), (.int (97 : Int32)), (.int (98 : Int32)), (.int (99 : Int32)), (.int (100 : Int32)), (.int (101 : Int32)), (.int (102 : Int32))] (.int (0 : Int32))) (S_F : Sta Z h0 "jdk/internal/util/Preconditions" "SIOOBE_FORMATTER" "Ljava/util/function/BiFunction;" w_F) (S_CS : Sta Z h0 "java/lang/String" "COMPACT_STRINGS" "Z" (.int w_CS)) (hcs : ¬ (w_CS = (0 : Int32))) (hp1 : ¬ (p1 < (0 : Int32))) (hp2 : p1 < (16 : Int32)) (hr_w_F : w_F.isRef = true) :
    MetFree l (⟨"java/lang/String", "charAt", "(I)C"⟩ : MethodName) (head1 (Jvm.Cond.code (⟨"java/lang/String", "charAt", "(I)C"⟩ : MethodName) jdk_42_method_56_code 2 (some .char) :: ws) ({ frames := 3, cells := 0, slots := 0, locals := 40 } : Room)) (fun a U => a = #[(.ref o0), (.int p1)] ∧ Z.Warmed39 U.vm ∧ U.heap = h0) (fun _ _ _ _ _ => True) (fun _ U o U' => ∃ v L, o = .returned v ∧ Q1lo Z o0 p1 u_a k_a w_F w_CS h0 n0 v U'.heap L ∧ FrameEnd U o U' L ({ frames := 3, cells := 0, slots := 0, locals := 40 } : Room).cells ({ frames := 3, cells := 0, slots := 0, locals := 40 } : Room).slots) := by
  refine MetFree.of_bodySF (plainFor_of_name pn_1) hisR ?_
  intro p e s m args below meth c s₁ Bd hml0 hP hK
  obtain ⟨rfl, hZ, hh⟩ := hP
  have hx := Bd.exec
  have hby := Bd.bytes
  have hml : c.maxLocals = 2 := hml0
  have hown : s.vm.findClass "java/lang/String" = some m.cls := findClass_of_methodNamed Bd.named
  have hnm := (name_of_methodNamed Bd.named Bd.method).1
  have X0 : Stand p l e ({ frames := 3, cells := 0, slots := 0, locals := 40 } : Room) s m #[(.ref o0), (.int p1)] below meth c s₁ [] 0 0 := Stand.of_body Bd
  have e0 : s₁.heap = h0 := by rw [← hh, Bd.state]; rfl
  have N0 := Fr.nil n0
  show OGo p e below s (Q1lo Z o0 p1 u_a k_a w_F w_CS h0 n0) ({ frames := 3, cells := 0, slots := 0, locals := 40 } : Room).cells ({ frames := 3, cells := 0, slots := 0, locals := 40 } : Room).slots _
  refine OGo.st (fun _ k => castTop (ef_1lo m o0 p1) k) ?_
  show OGo p e below s _ _ _ (s₁.setTop (mkF m 0 #[.val (.ref o0), .val (.int p1)] []))
  refine OGo.st (fun _ k => XS.aloadN X0.here hx rfl (hb hby d1_0) rfl rfl k) ?_
  show OGo p e below s _ _ _ (s₁.setTop (mkF m 1 #[.val (.ref o0), .val (.int p1)] [(.ref o0)]))
  obtain ⟨cq1, kq1, q1a, q1b, q1c⟩ := isOf hZ e0 E_o0
  obtain ⟨_, _, ⟨T1, L1, k1, n1⟩, -, X1, ⟨Lc1, hQ1, l1, y1, z1⟩, st1⟩ := X0.virtualBack hx (y := (⟨"java/lang/String", "isLatin1", "()Z"⟩ : MethodName)) (z := (⟨"java/lang/String", "isLatin1", "()Z"⟩ : MethodName)) hown (mvT hZ (hw _ (List.mem_of_getElem? (i := 14) rfl))) (mvT hZ (hw _ (List.mem_of_getElem? (i := 15) rfl))) (notFace_of_selects (args := #[]) (mvT hZ (hw _ (List.mem_of_getElem? (i := 17) rfl)))) (mvT hZ (hw _ (List.mem_of_getElem? (i := 17) rfl))) (mvT hZ (hw _ (List.mem_of_getElem? (i := 16) rfl))) (by decide) (backOf (W := 0) (rm2 l Z a0 hw [] o0 w_CS h0 n0 Z0 S_CS E_o0 F_coder hcs) hZ (hw _ (List.mem_of_getElem? (i := 18) rfl)) (hw _ (List.mem_of_getElem? (i := 1) rfl)) (by decide) (by decide)) q1a q1c (g := (mkF m 1 #[.val (.ref o0), .val (.int p1)] [(.ref o0)])) rfl (by rw [hml]; rfl) (Steps.refl _) (argsL := []) (rest := []) (lenOf pd_1lo_0 rfl) rfl (by show 2 * 0 + _ ≤ _; exact Nat.le_of_eq rfl) (hb hby d1_1) (fun _ _ => ⟨rfl, e0, (by decide : 0 + 0 ≤ _), (by decide : 0 + 0 ≤ _)⟩)
  dsimp only [Pt.U, Pt.locs, Pt.cells, Pt.slots] at X1 l1 y1 z1 st1 hQ1
  subst l1 y1 z1
  obtain ⟨rfl, N1q, e1⟩ := hQ1
  have hl1 : (f2) = (1 : Int32) := rfl
  have N1 := Fr.app N0 N1q
  refine OGo.st (fun _ k => st1.trans k) ?_
  show OGo p e below s _ _ _ (T1.setTop (mkF m 4 #[.val (.ref o0), .val (.int p1)] [(.int (1 : Int32))]))
  refine OGo.st (fun _ k => XS.ifNo X1.here hx rfl (hb hby d1_4) rfl ((if0 _ _).trans (feq (by decide : ¬ ((1 : Int32) = (0 : Int32)))).1) k) ?_
  show OGo p e below s _ _ _ (T1.setTop (mkF m 7 #[.val (.ref o0), .val (.int p1)] []))
  refine OGo.st (fun _ k => XS.aloadN X1.here hx rfl (hb hby d1_7) rfl rfl k) ?_
  show OGo p e below s _ _ _ (T1.setTop (mkF m 8 #[.val (.ref o0), .val (.int p1)] [(.ref o0)]))
  obtain ⟨T2, X2, e2, st2⟩ := getF X1 hx hZ hown (host := "") (Or.inl (hw _ (List.mem_of_getElem? (i := 21) rfl))) Via.refl e1 F_value (g := (mkF m 8 #[.val (.ref o0), .val (.int p1)] [(.ref o0)])) rfl rfl (hb hby d1_8)
  refine OGo.st st2 ?_
  show OGo p e below s _ _ _ (T2.setTop (mkF m 11 #[.val (.ref o0), .val (.int p1)] [(.ref u_a)]))
  refine OGo.st (fun _ k => XS.iloadN X2.here hx rfl (hb hby d1_11) rfl k) ?_
  show OGo p e below s _ _ _ (T2.setTop (mkF m 12 #[.val (.ref o0), .val (.int p1)] [(.int p1), (.ref u_a)]))
  obtain ⟨_, _, ⟨T3, L3, k3, n3⟩, -, X3, ⟨Lc3, hQ3, l3, y3, z3⟩, st3⟩ := Jvm.LawKit.callS X2 hx (y := (⟨"java/lang/StringLatin1", "charAt", "([BI)C"⟩ : MethodName)) hown (mvT hZ (hw _ (List.mem_of_getElem? (i := 22) rfl))) (mvT hZ (hw _ (List.mem_of_getElem? (i := 23) rfl))) (mvT hZ (hw _ (List.mem_of_getElem? (i := 24) rfl))) (mvT hZ (hw _ (List.mem_of_getElem? (i := 25) rfl))) (by decide) (backOf (W := 0) (rm3lo l Z a0 hw [] u_a p1 k_a w_F h0 n0 Z0 V_u S_F hp1 hp2 hr_w_F) hZ (hw _ (List.mem_of_getElem? (i := 25) rfl)) (hw _ (List.mem_of_getElem? (i := 24) rfl)) (by decide) (by decide)) (g := (mkF m 12 #[.val (.ref o0), .val (.int p1)] [(.int p1), (.ref u_a)])) rfl (by rw [hml]; rfl) (argsL := [(.ref u_a), (.int p1)]) (rest := []) (lenOf pd_1lo_1 rfl) rfl (by show 2 * 0 + _ ≤ _; exact Nat.le_of_eq rfl) (hb hby d1_12) (fun _ _ => ⟨rfl, e2, (by decide : 0 + 0 ≤ _), (by decide : 0 + 0 ≤ _)⟩)
  dsimp only [Pt.U, Pt.locs, Pt.cells, Pt.slots] at X3 l3 y3 z3 st3 hQ3
  subst l3 y3 z3
  obtain ⟨rfl, N3q, e3⟩ := hQ3
  have N3 := Fr.app N1 N3q
  refine OGo.st st3 ?_
  show OGo p e below s _ _ _ (T3.setTop (mkF m 15 #[.val (.ref o0), .val (.int p1)] [(.int (f3lo p1))]))
  exact oretN X3 hx Bd.notSynchronized (t := .char) Bd.returns (by simp) (hb hby d1_15) rfl e3 ⟨(congrArg (fun z => some (Value.int z)) (show (nar .char (f3lo p1)) = f1lo p1 from Eq.symm (by unfold f1lo; exact rfl))), N3, rfl⟩ (by decide) (by decide)
theorem pd_3up_0 : parseMethodDescriptor "(II)V" = some ⟨[.int, .int], none⟩ := by decide +kernel
theorem ef_3up (m : MethodId) (o0 : Addr) (p1 : Int32) : entryFrame m #[(.ref o0), (.int p1)] 2 = mkF m 0 #[.val (.ref o0), .val (.int p1)] [] := by first | (simp [entryFrame, mkF, argsToLocals, Value.category]; done) | rfl
def f3up (p1 : Int32) : Int32 := (nar .char (((own_at own_up p1) &&& (255 : Int32)).toUInt32.toUInt16.toUInt32.toInt32))
def Q3up (Z : State) (o0 : Addr) (p1 : Int32) (k_a : ClassId) (w_F : Value) (h0 : Heap) (n0 : Nat) (v : Option Value) (h : Heap) (L : List Loc) : Prop := v = some (.int (f3up p1)) ∧ Fr n0 L ∧ h = h0
set_option maxRecDepth 65536 in
set_option maxHeartbeats 40000000 in
theorem rm3up (l : Launch) (Z : State) (a0 : Array Value) (hw : ∀ d ∈ tables_1, d.before a0 Z = true) (ws : List Jvm.Cond) (o0 : Addr) (p1 : Int32) (k_a : ClassId) (w_F : Value) (h0 : Heap) (n0 : Nat) (Z0 : n0 ≤ h0.size) (V_o0 : Arv Z h0 o0 k_a .byte (16 : Int32) [(.int (48 : Int32)), (.int (49 : Int32)), (.int (50 : Int32)), (.int (51 : Int32)), (.int (52 : Int32)), (.int (53 : Int32)), (.int (54 : Int32)), (.int (55 : Int32)), (.int (56 : Int32)), (.int (57 : Int32)), (.int (65 : Int32)), (.int (66 : Int32)), (.int (67 : Int32)), (.int (68 : Int32)), (.int (69 : Int32)), (.int (70 : Int32))] (.int (0 : Int32))) (S_F : Sta Z h0 "jdk/internal/util/Preconditions" "SIOOBE_FORMATTER" "Ljava/util/function/BiFunction;" w_F) (hp1 : ¬ (p1 < (0 : Int32))) (hp2 : p1 < (16 : Int32)) (hr_w_F : w_F.isRef = true) :
    MetFree l (⟨"java/lang/StringLatin1", "charAt", "([BI)C"⟩ : MethodName) (head1 (Jvm.Cond.code (⟨"java/lang/StringLatin1", "charAt", "([BI)C"⟩ : MethodName) jdk_43_method_2_code 2 (some .char) :: ws) ({ frames := 2, cells := 0, slots := 0, locals := 27 } : Room)) (fun a U => a = #[(.ref o0), (.int p1)] ∧ Z.Warmed39 U.vm ∧ U.heap = h0) (fun _ _ _ _ _ => True) (fun _ U o U' => ∃ v L, o = .returned v ∧ Q3up Z o0 p1 k_a w_F h0 n0 v U'.heap L ∧ FrameEnd U o U' L ({ frames := 2, cells := 0, slots := 0, locals := 27 } : Room).cells ({ frames := 2, cells := 0, slots := 0, locals := 27 } : Room).slots) := by
  refine MetFree.of_bodySF (plainFor_of_name pn_3) hisR ?_
  intro p e s m args below meth c s₁ Bd hml0 hP hK
  obtain ⟨rfl, hZ, hh⟩ := hP
  have hx := Bd.exec
  have hby := Bd.bytes
  have hml : c.maxLocals = 2 := hml0
  have hown : s.vm.findClass "java/lang/StringLatin1" = some m.cls := findClass_of_methodNamed Bd.named
  have hnm := (name_of_methodNamed Bd.named Bd.method).1
  have X0 : Stand p l e ({ frames := 2, cells := 0, slots := 0, locals := 27 } : Room) s m #[(.ref o0), (.int p1)] below meth c s₁ [] 0 0 := Stand.of_body Bd
  have e0 : s₁.heap = h0 := by rw [← hh, Bd.state]; rfl
  have N0 := Fr.nil n0
  show OGo p e below s (Q3up Z o0 p1 k_a w_F h0 n0) ({ frames := 2, cells := 0, slots := 0, locals := 27 } : Room).cells ({ frames := 2, cells := 0, slots := 0, locals := 27 } : Room).slots _
  refine OGo.st (fun _ k => castTop (ef_3up m o0 p1) k) ?_
  show OGo p e below s _ _ _ (s₁.setTop (mkF m 0 #[.val (.ref o0), .val (.int p1)] []))
  refine OGo.st (fun _ k => XS.iloadN X0.here hx rfl (hb hby d3_0) rfl k) ?_
  show OGo p e below s _ _ _ (s₁.setTop (mkF m 1 #[.val (.ref o0), .val (.int p1)] [(.int p1)]))
  refine OGo.st (fun _ k => XS.aloadN X0.here hx rfl (hb hby d3_1) rfl rfl k) ?_
  show OGo p e below s _ _ _ (s₁.setTop (mkF m 2 #[.val (.ref o0), .val (.int p1)] [(.ref o0), (.int p1)]))
  obtain ⟨cl1, Ar1, -, Sz1, Nn1, -, -⟩ := id V_o0
  refine OGo.st (fun _ k => X0.arraylength hx (by rw [e0]; exact Ar1.1) (State.isArrayOf_alike hZ.alike Ar1.2.1) (g := (mkF m 2 #[.val (.ref o0), .val (.int p1)] [(.ref o0), (.int p1)])) rfl rfl (hb hby d3_2) _ k) ?_
  rw [len_of Sz1 Nn1]
  show OGo p e below s _ _ _ (s₁.setTop (mkF m 3 #[.val (.ref o0), .val (.int p1)] [(.int (16 : Int32)), (.int p1)]))
  obtain ⟨_, _, ⟨T2, L2, k2, n2⟩, -, X2, ⟨Lc2, hQ2, l2, y2, z2⟩, st2⟩ := Jvm.LawKit.callS X0 hx (y := (⟨"java/lang/String", "checkIndex", "(II)V"⟩ : MethodName)) hown (mvT hZ (hw _ (List.mem_of_getElem? (i := 26) rfl))) (mvT hZ (hw _ (List.mem_of_getElem? (i := 27) rfl))) (mvT hZ (hw _ (List.mem_of_getElem? (i := 1) rfl))) (mvT hZ (hw _ (List.mem_of_getElem? (i := 28) rfl))) (by decide) (backOf (W := 0) (rm4 l Z a0 hw [] p1 (16 : Int32) w_F h0 n0 Z0 S_F hp1 hp2 hr_w_F) hZ (hw _ (List.mem_of_getElem? (i := 28) rfl)) (hw _ (List.mem_of_getElem? (i := 1) rfl)) (by decide) (by decide)) (g := (mkF m 3 #[.val (.ref o0), .val (.int p1)] [(.int (16 : Int32)), (.int p1)])) rfl (by rw [hml]; rfl) (argsL := [(.int p1), (.int (16 : Int32))]) (rest := []) (lenOf pd_3up_0 rfl) rfl (by show 2 * 0 + _ ≤ _; exact Nat.le_of_eq rfl) (hb hby d3_3) (fun _ _ => ⟨rfl, e0, (by decide : 0 + 0 ≤ _), (by decide : 0 + 0 ≤ _)⟩)
  dsimp only [Pt.U, Pt.locs, Pt.cells, Pt.slots] at X2 l2 y2 z2 st2 hQ2
  subst l2 y2 z2
  obtain ⟨rfl, N2q, e2⟩ := hQ2
  have N2 := Fr.app N0 N2q
  refine OGo.st st2 ?_
  show OGo p e below s _ _ _ (T2.setTop (mkF m 6 #[.val (.ref o0), .val (.int p1)] []))
  refine OGo.st (fun _ k => XS.aloadN X2.here hx rfl (hb hby d3_6) rfl rfl k) ?_
  show OGo p e below s _ _ _ (T2.setTop (mkF m 7 #[.val (.ref o0), .val (.int p1)] [(.ref o0)]))
  refine OGo.st (fun _ k => XS.iloadN X2.here hx rfl (hb hby d3_7) rfl k) ?_
  show OGo p e below s _ _ _ (T2.setTop (mkF m 8 #[.val (.ref o0), .val (.int p1)] [(.int p1), (.ref o0)]))
  obtain ⟨cl3, Ar3, q3, Sz3, Nn3, Hs3, Gs3⟩ := id V_o0
  have hin3 : ¬ (p1 < 0 ∨ cl3.slots.size ≤ (p1).toNatClampNeg) := inb_of Sz3 ⟨hp1, hp2⟩
  have hat3 : cl3.slots[(p1).toNatClampNeg]? = some (.int (own_at own_up p1)) := Hs3.at hin3 (own_get own_up p1)
  refine OGo.st (fun _ k => X2.baloadBytes hx (j := p1) (v := (.int (own_at own_up p1))) (by rw [e2]; exact Ar3.1) (State.isArrayOf_alike hZ.alike Ar3.2.1) Ar3.2.2 hin3 hat3 (g := (mkF m 8 #[.val (.ref o0), .val (.int p1)] [(.int p1), (.ref o0)])) rfl rfl (hb hby d3_8) _ k) ?_
  show OGo p e below s _ _ _ (T2.setTop (mkF m 9 #[.val (.ref o0), .val (.int p1)] [(.int (own_at own_up p1))]))
  refine OGo.st (fun _ k => XS.sipush X2.here hx rfl (hb hby d3_9) k) ?_
  show OGo p e below s _ _ _ (T2.setTop (mkF m 12 #[.val (.ref o0), .val (.int p1)] [(.int (255 : Int32)), (.int (own_at own_up p1))]))
  refine OGo.st (fun _ k => XS.iand X2.here hx rfl (hb hby d3_12) rfl k) ?_
  show OGo p e below s _ _ _ (T2.setTop (mkF m 13 #[.val (.ref o0), .val (.int p1)] [(.int ((own_at own_up p1) &&& (255 : Int32)))]))
  refine OGo.st (fun _ k => XS.i2c X2.here hx rfl (hb hby d3_13) rfl k) ?_
  show OGo p e below s _ _ _ (T2.setTop (mkF m 14 #[.val (.ref o0), .val (.int p1)] [(.int (((own_at own_up p1) &&& (255 : Int32)).toUInt32.toUInt16.toUInt32.toInt32))]))
  exact oretN X2 hx Bd.notSynchronized (t := .char) Bd.returns (by simp) (hb hby d3_14) rfl e2 ⟨(congrArg (fun z => some (Value.int z)) (show (nar .char (((own_at own_up p1) &&& (255 : Int32)).toUInt32.toUInt16.toUInt32.toInt32)) = f3up p1 from Eq.symm (by unfold f3up; exact rfl))), N2, rfl⟩ (by decide) (by decide)
theorem pd_1up_0 : parseMethodDescriptor "()Z" = some ⟨[], some .boolean⟩ := by decide +kernel
theorem pd_1up_1 : parseMethodDescriptor "([BI)C" = some ⟨[(.array .byte), .int], some .char⟩ := by decide +kernel
theorem ef_1up (m : MethodId) (o0 : Addr) (p1 : Int32) : entryFrame m #[(.ref o0), (.int p1)] 2 = mkF m 0 #[.val (.ref o0), .val (.int p1)] [] := by first | (simp [entryFrame, mkF, argsToLocals, Value.category]; done) | rfl
def f1up (p1 : Int32) : Int32 := (nar .char (f3up p1))
def Q1up (Z : State) (o0 : Addr) (p1 : Int32) (u_a : Addr) (k_a : ClassId) (w_F : Value) (w_CS : Int32) (h0 : Heap) (n0 : Nat) (v : Option Value) (h : Heap) (L : List Loc) : Prop := v = some (.int (f1up p1)) ∧ Fr n0 L ∧ h = h0
set_option maxRecDepth 65536 in
set_option maxHeartbeats 40000000 in
theorem rm1up (l : Launch) (Z : State) (a0 : Array Value) (hw : ∀ d ∈ tables_1, d.before a0 Z = true) (ws : List Jvm.Cond) (o0 : Addr) (p1 : Int32) (u_a : Addr) (k_a : ClassId) (w_F : Value) (w_CS : Int32) (h0 : Heap) (n0 : Nat) (Z0 : n0 ≤ h0.size) (E_o0 : Exa Z h0 o0 "java/lang/String") (F_coder : Fld Z h0 o0 "java/lang/String" "coder" "B" (.int (0 : Int32))) (F_value : Fld Z h0 o0 "java/lang/String" "value" "[B" (.ref u_a)) (V_u : Arv Z h0 u_a k_a .byte (16 : Int32) [(.int (48 : Int32)), (.int (49 : Int32)), (.int (50 : Int32)), (.int (51 : Int32)), (.int (52 : Int32)), (.int (53 : Int32)), (.int (54 : Int32)), (.int (55 : Int32)), (.int (56 : Int32)), (.int (57 : Int32)), (.int (65 : Int32)), (.int (66 : Int32)), (.int (67 : Int32)), (.int (68 : Int32)), (.int (69 : Int32)), (.int (70 : Int32))] (.int (0 : Int32))) (S_F : Sta Z h0 "jdk/internal/util/Preconditions" "SIOOBE_FORMATTER" "Ljava/util/function/BiFunction;" w_F) (S_CS : Sta Z h0 "java/lang/String" "COMPACT_STRINGS" "Z" (.int w_CS)) (hcs : ¬ (w_CS = (0 : Int32))) (hp1 : ¬ (p1 < (0 : Int32))) (hp2 : p1 < (16 : Int32)) (hr_w_F : w_F.isRef = true) :
    MetFree l (⟨"java/lang/String", "charAt", "(I)C"⟩ : MethodName) (head1 (Jvm.Cond.code (⟨"java/lang/String", "charAt", "(I)C"⟩ : MethodName) jdk_42_method_56_code 2 (some .char) :: ws) ({ frames := 3, cells := 0, slots := 0, locals := 40 } : Room)) (fun a U => a = #[(.ref o0), (.int p1)] ∧ Z.Warmed39 U.vm ∧ U.heap = h0) (fun _ _ _ _ _ => True) (fun _ U o U' => ∃ v L, o = .returned v ∧ Q1up Z o0 p1 u_a k_a w_F w_CS h0 n0 v U'.heap L ∧ FrameEnd U o U' L ({ frames := 3, cells := 0, slots := 0, locals := 40 } : Room).cells ({ frames := 3, cells := 0, slots := 0, locals := 40 } : Room).slots) := by
  refine MetFree.of_bodySF (plainFor_of_name pn_1) hisR ?_
  intro p e s m args below meth c s₁ Bd hml0 hP hK
  obtain ⟨rfl, hZ, hh⟩ := hP
  have hx := Bd.exec
  have hby := Bd.bytes
  have hml : c.maxLocals = 2 := hml0
  have hown : s.vm.findClass "java/lang/String" = some m.cls := findClass_of_methodNamed Bd.named
  have hnm := (name_of_methodNamed Bd.named Bd.method).1
  have X0 : Stand p l e ({ frames := 3, cells := 0, slots := 0, locals := 40 } : Room) s m #[(.ref o0), (.int p1)] below meth c s₁ [] 0 0 := Stand.of_body Bd
  have e0 : s₁.heap = h0 := by rw [← hh, Bd.state]; rfl
  have N0 := Fr.nil n0
  show OGo p e below s (Q1up Z o0 p1 u_a k_a w_F w_CS h0 n0) ({ frames := 3, cells := 0, slots := 0, locals := 40 } : Room).cells ({ frames := 3, cells := 0, slots := 0, locals := 40 } : Room).slots _
  refine OGo.st (fun _ k => castTop (ef_1up m o0 p1) k) ?_
  show OGo p e below s _ _ _ (s₁.setTop (mkF m 0 #[.val (.ref o0), .val (.int p1)] []))
  refine OGo.st (fun _ k => XS.aloadN X0.here hx rfl (hb hby d1_0) rfl rfl k) ?_
  show OGo p e below s _ _ _ (s₁.setTop (mkF m 1 #[.val (.ref o0), .val (.int p1)] [(.ref o0)]))
  obtain ⟨cq1, kq1, q1a, q1b, q1c⟩ := isOf hZ e0 E_o0
  obtain ⟨_, _, ⟨T1, L1, k1, n1⟩, -, X1, ⟨Lc1, hQ1, l1, y1, z1⟩, st1⟩ := X0.virtualBack hx (y := (⟨"java/lang/String", "isLatin1", "()Z"⟩ : MethodName)) (z := (⟨"java/lang/String", "isLatin1", "()Z"⟩ : MethodName)) hown (mvT hZ (hw _ (List.mem_of_getElem? (i := 14) rfl))) (mvT hZ (hw _ (List.mem_of_getElem? (i := 15) rfl))) (notFace_of_selects (args := #[]) (mvT hZ (hw _ (List.mem_of_getElem? (i := 17) rfl)))) (mvT hZ (hw _ (List.mem_of_getElem? (i := 17) rfl))) (mvT hZ (hw _ (List.mem_of_getElem? (i := 16) rfl))) (by decide) (backOf (W := 0) (rm2 l Z a0 hw [] o0 w_CS h0 n0 Z0 S_CS E_o0 F_coder hcs) hZ (hw _ (List.mem_of_getElem? (i := 18) rfl)) (hw _ (List.mem_of_getElem? (i := 1) rfl)) (by decide) (by decide)) q1a q1c (g := (mkF m 1 #[.val (.ref o0), .val (.int p1)] [(.ref o0)])) rfl (by rw [hml]; rfl) (Steps.refl _) (argsL := []) (rest := []) (lenOf pd_1up_0 rfl) rfl (by show 2 * 0 + _ ≤ _; exact Nat.le_of_eq rfl) (hb hby d1_1) (fun _ _ => ⟨rfl, e0, (by decide : 0 + 0 ≤ _), (by decide : 0 + 0 ≤ _)⟩)
  dsimp only [Pt.U, Pt.locs, Pt.cells, Pt.slots] at X1 l1 y1 z1 st1 hQ1
  subst l1 y1 z1
  obtain ⟨rfl, N1q, e1⟩ := hQ1
  have hl1 : (f2) = (1 : Int32) := rfl
  have N1 := Fr.app N0 N1q
  refine OGo.st (fun _ k => st1.trans k) ?_
  show OGo p e below s _ _ _ (T1.setTop (mkF m 4 #[.val (.ref o0), .val (.int p1)] [(.int (1 : Int32))]))
  refine OGo.st (fun _ k => XS.ifNo X1.here hx rfl (hb hby d1_4) rfl ((if0 _ _).trans (feq (by decide : ¬ ((1 : Int32) = (0 : Int32)))).1) k) ?_
  show OGo p e below s _ _ _ (T1.setTop (mkF m 7 #[.val (.ref o0), .val (.int p1)] []))
  refine OGo.st (fun _ k => XS.aloadN X1.here hx rfl (hb hby d1_7) rfl rfl k) ?_
  show OGo p e below s _ _ _ (T1.setTop (mkF m 8 #[.val (.ref o0), .val (.int p1)] [(.ref o0)]))
  obtain ⟨T2, X2, e2, st2⟩ := getF X1 hx hZ hown (host := "") (Or.inl (hw _ (List.mem_of_getElem? (i := 21) rfl))) Via.refl e1 F_value (g := (mkF m 8 #[.val (.ref o0), .val (.int p1)] [(.ref o0)])) rfl rfl (hb hby d1_8)
  refine OGo.st st2 ?_
  show OGo p e below s _ _ _ (T2.setTop (mkF m 11 #[.val (.ref o0), .val (.int p1)] [(.ref u_a)]))
  refine OGo.st (fun _ k => XS.iloadN X2.here hx rfl (hb hby d1_11) rfl k) ?_
  show OGo p e below s _ _ _ (T2.setTop (mkF m 12 #[.val (.ref o0), .val (.int p1)] [(.int p1), (.ref u_a)]))
  obtain ⟨_, _, ⟨T3, L3, k3, n3⟩, -, X3, ⟨Lc3, hQ3, l3, y3, z3⟩, st3⟩ := Jvm.LawKit.callS X2 hx (y := (⟨"java/lang/StringLatin1", "charAt", "([BI)C"⟩ : MethodName)) hown (mvT hZ (hw _ (List.mem_of_getElem? (i := 22) rfl))) (mvT hZ (hw _ (List.mem_of_getElem? (i := 23) rfl))) (mvT hZ (hw _ (List.mem_of_getElem? (i := 24) rfl))) (mvT hZ (hw _ (List.mem_of_getElem? (i := 25) rfl))) (by decide) (backOf (W := 0) (rm3up l Z a0 hw [] u_a p1 k_a w_F h0 n0 Z0 V_u S_F hp1 hp2 hr_w_F) hZ (hw _ (List.mem_of_getElem? (i := 25) rfl)) (hw _ (List.mem_of_getElem? (i := 24) rfl)) (by decide) (by decide)) (g := (mkF m 12 #[.val (.ref o0), .val (.int p1)] [(.int p1), (.ref u_a)])) rfl (by rw [hml]; rfl) (argsL := [(.ref u_a), (.int p1)]) (rest := []) (lenOf pd_1up_1 rfl) rfl (by show 2 * 0 + _ ≤ _; exact Nat.le_of_eq rfl) (hb hby d1_12) (fun _ _ => ⟨rfl, e2, (by decide : 0 + 0 ≤ _), (by decide : 0 + 0 ≤ _)⟩)
  dsimp only [Pt.U, Pt.locs, Pt.cells, Pt.slots] at X3 l3 y3 z3 st3 hQ3
  subst l3 y3 z3
  obtain ⟨rfl, N3q, e3⟩ := hQ3
  have N3 := Fr.app N1 N3q
  refine OGo.st st3 ?_
  show OGo p e below s _ _ _ (T3.setTop (mkF m 15 #[.val (.ref o0), .val (.int p1)] [(.int (f3up p1))]))
  exact oretN X3 hx Bd.notSynchronized (t := .char) Bd.returns (by simp) (hb hby d1_15) rfl e3 ⟨(congrArg (fun z => some (Value.int z)) (show (nar .char (f3up p1)) = f1up p1 from Eq.symm (by unfold f1up; exact rfl))), N3, rfl⟩ (by decide) (by decide)
theorem d6_0 : decode prog_4_method_2_code 0 = .ok (.iload_n 0, 1) := by decide +kernel
theorem d6_1 : decode prog_4_method_2_code 1 = .ok (.bipush 48, 2) := by decide +kernel
theorem d6_3 : decode prog_4_method_2_code 3 = .ok (.if_icmp .lt 14, 3) := by decide +kernel
theorem d6_6 : decode prog_4_method_2_code 6 = .ok (.iload_n 0, 1) := by decide +kernel
theorem d6_7 : decode prog_4_method_2_code 7 = .ok (.bipush 57, 2) := by decide +kernel
theorem d6_9 : decode prog_4_method_2_code 9 = .ok (.if_icmp .gt 8, 3) := by decide +kernel
theorem d6_12 : decode prog_4_method_2_code 12 = .ok (.iload_n 0, 1) := by decide +kernel
theorem d6_13 : decode prog_4_method_2_code 13 = .ok (.bipush 48, 2) := by decide +kernel
theorem d6_15 : decode prog_4_method_2_code 15 = .ok (.isub, 1) := by decide +kernel
theorem d6_16 : decode prog_4_method_2_code 16 = .ok (.ireturn, 1) := by decide +kernel
theorem d6_17 : decode prog_4_method_2_code 17 = .ok (.iload_n 0, 1) := by decide +kernel
theorem d6_18 : decode prog_4_method_2_code 18 = .ok (.bipush 97, 2) := by decide +kernel
theorem d6_20 : decode prog_4_method_2_code 20 = .ok (.if_icmp .lt 17, 3) := by decide +kernel
theorem d6_23 : decode prog_4_method_2_code 23 = .ok (.iload_n 0, 1) := by decide +kernel
theorem d6_24 : decode prog_4_method_2_code 24 = .ok (.bipush 102, 2) := by decide +kernel
theorem d6_26 : decode prog_4_method_2_code 26 = .ok (.if_icmp .gt 11, 3) := by decide +kernel
theorem d6_29 : decode prog_4_method_2_code 29 = .ok (.iload_n 0, 1) := by decide +kernel
theorem d6_30 : decode prog_4_method_2_code 30 = .ok (.bipush 97, 2) := by decide +kernel
theorem d6_32 : decode prog_4_method_2_code 32 = .ok (.isub, 1) := by decide +kernel
theorem d6_33 : decode prog_4_method_2_code 33 = .ok (.bipush 10, 2) := by decide +kernel
theorem d6_35 : decode prog_4_method_2_code 35 = .ok (.iadd, 1) := by decide +kernel
theorem d6_36 : decode prog_4_method_2_code 36 = .ok (.ireturn, 1) := by decide +kernel
theorem d6_37 : decode prog_4_method_2_code 37 = .ok (.iload_n 0, 1) := by decide +kernel
theorem d6_38 : decode prog_4_method_2_code 38 = .ok (.bipush 65, 2) := by decide +kernel
theorem d6_40 : decode prog_4_method_2_code 40 = .ok (.if_icmp .lt 19, 3) := by decide +kernel
theorem d6_43 : decode prog_4_method_2_code 43 = .ok (.iload_n 0, 1) := by decide +kernel
theorem d6_44 : decode prog_4_method_2_code 44 = .ok (.bipush 70, 2) := by decide +kernel
theorem d6_46 : decode prog_4_method_2_code 46 = .ok (.if_icmp .gt 13, 3) := by decide +kernel
theorem d6_49 : decode prog_4_method_2_code 49 = .ok (.iload_n 0, 1) := by decide +kernel
theorem d6_50 : decode prog_4_method_2_code 50 = .ok (.bipush 65, 2) := by decide +kernel
theorem d6_52 : decode prog_4_method_2_code 52 = .ok (.isub, 1) := by decide +kernel
theorem d6_53 : decode prog_4_method_2_code 53 = .ok (.bipush 10, 2) := by decide +kernel
theorem d6_55 : decode prog_4_method_2_code 55 = .ok (.iadd, 1) := by decide +kernel
theorem d6_56 : decode prog_4_method_2_code 56 = .ok (.goto 4, 3) := by decide +kernel
theorem d6_59 : decode prog_4_method_2_code 59 = .ok (.iconst (-1), 1) := by decide +kernel
theorem d6_60 : decode prog_4_method_2_code 60 = .ok (.ireturn, 1) := by decide +kernel
theorem pn_6 : plainName "com/example/evbind/evbind/Ascii" = true := by first | (simp [plainName, overriddenIn]; done) | decide +kernel
theorem ef_6 (m : MethodId) (p0 : Int32) : entryFrame m #[(.int p0)] 1 = mkF m 0 #[.val (.int p0)] [] := by first | (simp [entryFrame, mkF, argsToLocals, Value.category]; done) | rfl
def f6 (p0 : Int32) : Int32 := (if p0 < (48 : Int32) then (-1 : Int32) else (if (57 : Int32) < p0 then (if p0 < (97 : Int32) then (if p0 < (65 : Int32) then (-1 : Int32) else (if (70 : Int32) < p0 then (-1 : Int32) else ((p0 - (65 : Int32)) + (10 : Int32)))) else (if (102 : Int32) < p0 then (-1 : Int32) else ((p0 - (97 : Int32)) + (10 : Int32)))) else (p0 - (48 : Int32))))
def Q6 (Z : State) (p0 : Int32) (h0 : Heap) (n0 : Nat) (v : Option Value) (h : Heap) (L : List Loc) : Prop := v = some (.int (f6 p0)) ∧ Fr n0 L ∧ h = h0
set_option maxRecDepth 65536 in
set_option maxHeartbeats 40000000 in
theorem rm6 (l : Launch) (Z : State) (a0 : Array Value) (hw : ∀ d ∈ tables_1, d.before a0 Z = true) (ws : List Jvm.Cond) (p0 : Int32) (h0 : Heap) (n0 : Nat) (Z0 : n0 ≤ h0.size) :
    MetFree l (⟨"com/example/evbind/evbind/Ascii", "hexValue", "(I)I"⟩ : MethodName) (head1 (Jvm.Cond.code (⟨"com/example/evbind/evbind/Ascii", "hexValue", "(I)I"⟩ : MethodName) prog_4_method_2_code 1 (some .int) :: ws) ({ frames := 0, cells := 0, slots := 0, locals := 0 } : Room)) (fun a U => a = #[(.int p0)] ∧ Z.Warmed39 U.vm ∧ U.heap = h0) (fun _ _ _ _ _ => True) (fun _ U o U' => ∃ v L, o = .returned v ∧ Q6 Z p0 h0 n0 v U'.heap L ∧ FrameEnd U o U' L ({ frames := 0, cells := 0, slots := 0, locals := 0 } : Room).cells ({ frames := 0, cells := 0, slots := 0, locals := 0 } : Room).slots) := by
  refine MetFree.of_bodySF (plainFor_of_name pn_6) hisR ?_
  intro p e s m args below meth c s₁ Bd hml0 hP hK
  obtain ⟨rfl, hZ, hh⟩ := hP
  have hx := Bd.exec
  have hby := Bd.bytes
  have hml : c.maxLocals = 1 := hml0
  have hown : s.vm.findClass "com/example/evbind/evbind/Ascii" = some m.cls := findClass_of_methodNamed Bd.named
  have hnm := (name_of_methodNamed Bd.named Bd.method).1
  have X0 : Stand p l e ({ frames := 0, cells := 0, slots := 0, locals := 0 } : Room) s m #[(.int p0)] below meth c s₁ [] 0 0 := Stand.of_body Bd
  have e0 : s₁.heap = h0 := by rw [← hh, Bd.state]; rfl
  have N0 := Fr.nil n0
  show OGo p e below s (Q6 Z p0 h0 n0) ({ frames := 0, cells := 0, slots := 0, locals := 0 } : Room).cells ({ frames := 0, cells := 0, slots := 0, locals := 0 } : Room).slots _
  refine OGo.st (fun _ k => castTop (ef_6 m p0) k) ?_
  show OGo p e below s _ _ _ (s₁.setTop (mkF m 0 #[.val (.int p0)] []))
  refine OGo.st (fun _ k => XS.iloadN X0.here hx rfl (hb hby d6_0) rfl k) ?_
  show OGo p e below s _ _ _ (s₁.setTop (mkF m 1 #[.val (.int p0)] [(.int p0)]))
  refine OGo.st (fun _ k => XS.bipush X0.here hx rfl (hb hby d6_1) k) ?_
  show OGo p e below s _ _ _ (s₁.setTop (mkF m 3 #[.val (.int p0)] [(.int (48 : Int32)), (.int p0)]))
  by_cases hc3 : p0 < (48 : Int32)
  · refine OGo.st (fun _ k => XS.icmpYes X0.here hx rfl (pc0 := 3) (pc' := 17) rfl (hb hby d6_3) rfl (tlt hc3).1 (by decide) (by decide) k) ?_
    show OGo p e below s _ _ _ (s₁.setTop (mkF m 17 #[.val (.int p0)] []))
    refine OGo.st (fun _ k => XS.iloadN X0.here hx rfl (hb hby d6_17) rfl k) ?_
    show OGo p e below s _ _ _ (s₁.setTop (mkF m 18 #[.val (.int p0)] [(.int p0)]))
    refine OGo.st (fun _ k => XS.bipush X0.here hx rfl (hb hby d6_18) k) ?_
    show OGo p e below s _ _ _ (s₁.setTop (mkF m 20 #[.val (.int p0)] [(.int (97 : Int32)), (.int p0)]))
    refine OGo.st (fun _ k => XS.icmpYes X0.here hx rfl (pc0 := 20) (pc' := 37) rfl (hb hby d6_20) rfl (tlt (oLL hc3 (by decide))).1 (by decide) (by decide) k) ?_
    show OGo p e below s _ _ _ (s₁.setTop (mkF m 37 #[.val (.int p0)] []))
    refine OGo.st (fun _ k => XS.iloadN X0.here hx rfl (hb hby d6_37) rfl k) ?_
    show OGo p e below s _ _ _ (s₁.setTop (mkF m 38 #[.val (.int p0)] [(.int p0)]))
    refine OGo.st (fun _ k => XS.bipush X0.here hx rfl (hb hby d6_38) k) ?_
    show OGo p e below s _ _ _ (s₁.setTop (mkF m 40 #[.val (.int p0)] [(.int (65 : Int32)), (.int p0)]))
    refine OGo.st (fun _ k => XS.icmpYes X0.here hx rfl (pc0 := 40) (pc' := 59) rfl (hb hby d6_40) rfl (tlt (oLL hc3 (by decide))).1 (by decide) (by decide) k) ?_
    show OGo p e below s _ _ _ (s₁.setTop (mkF m 59 #[.val (.int p0)] []))
    refine OGo.st (fun _ k => XS.iconst X0.here hx rfl (hb hby d6_59) k) ?_
    show OGo p e below s _ _ _ (s₁.setTop (mkF m 60 #[.val (.int p0)] [(.int (-1 : Int32))]))
    exact oretI X0 hx Bd.notSynchronized Bd.returns (hb hby d6_60) e0 ⟨(congrArg (fun z => some (Value.int z)) (show (-1 : Int32) = f6 p0 from Eq.symm (by unfold f6; exact if_pos hc3))), N0, rfl⟩ (by decide) (by decide)
  · refine OGo.st (fun _ k => XS.icmpNo X0.here hx rfl (hb hby d6_3) rfl (flt hc3).1 k) ?_
    show OGo p e below s _ _ _ (s₁.setTop (mkF m 6 #[.val (.int p0)] []))
    refine OGo.st (fun _ k => XS.iloadN X0.here hx rfl (hb hby d6_6) rfl k) ?_
    show OGo p e below s _ _ _ (s₁.setTop (mkF m 7 #[.val (.int p0)] [(.int p0)]))
    refine OGo.st (fun _ k => XS.bipush X0.here hx rfl (hb hby d6_7) k) ?_
    show OGo p e below s _ _ _ (s₁.setTop (mkF m 9 #[.val (.int p0)] [(.int (57 : Int32)), (.int p0)]))
    by_cases hc9 : (57 : Int32) < p0
    · refine OGo.st (fun _ k => XS.icmpYes X0.here hx rfl (pc0 := 9) (pc' := 17) rfl (hb hby d6_9) rfl (tlt hc9).2.2.1 (by decide) (by decide) k) ?_
      show OGo p e below s _ _ _ (s₁.setTop (mkF m 17 #[.val (.int p0)] []))
      refine OGo.st (fun _ k => XS.iloadN X0.here hx rfl (hb hby d6_17) rfl k) ?_
      show OGo p e below s _ _ _ (s₁.setTop (mkF m 18 #[.val (.int p0)] [(.int p0)]))
      refine OGo.st (fun _ k => XS.bipush X0.here hx rfl (hb hby d6_18) k) ?_
      show OGo p e below s _ _ _ (s₁.setTop (mkF m 20 #[.val (.int p0)] [(.int (97 : Int32)), (.int p0)]))
      by_cases hc20 : p0 < (97 : Int32)
      · refine OGo.st (fun _ k => XS.icmpYes X0.here hx rfl (pc0 := 20) (pc' := 37) rfl (hb hby d6_20) rfl (tlt hc20).1 (by decide) (by decide) k) ?_
        show OGo p e below s _ _ _ (s₁.setTop (mkF m 37 #[.val (.int p0)] []))
        refine OGo.st (fun _ k => XS.iloadN X0.here hx rfl (hb hby d6_37) rfl k) ?_
        show OGo p e below s _ _ _ (s₁.setTop (mkF m 38 #[.val (.int p0)] [(.int p0)]))
        refine OGo.st (fun _ k => XS.bipush X0.here hx rfl (hb hby d6_38) k) ?_
        show OGo p e below s _ _ _ (s₁.setTop (mkF m 40 #[.val (.int p0)] [(.int (65 : Int32)), (.int p0)]))
        by_cases hc40 : p0 < (65 : Int32)
        · refine OGo.st (fun _ k => XS.icmpYes X0.here hx rfl (pc0 := 40) (pc' := 59) rfl (hb hby d6_40) rfl (tlt hc40).1 (by decide) (by decide) k) ?_
          show OGo p e below s _ _ _ (s₁.setTop (mkF m 59 #[.val (.int p0)] []))
          refine OGo.st (fun _ k => XS.iconst X0.here hx rfl (hb hby d6_59) k) ?_
          show OGo p e below s _ _ _ (s₁.setTop (mkF m 60 #[.val (.int p0)] [(.int (-1 : Int32))]))
          exact oretI X0 hx Bd.notSynchronized Bd.returns (hb hby d6_60) e0 ⟨(congrArg (fun z => some (Value.int z)) (show (-1 : Int32) = f6 p0 from Eq.symm (by unfold f6; exact (if_neg hc3).trans ((if_pos hc9).trans ((if_pos hc20).trans (if_pos hc40)))))), N0, rfl⟩ (by decide) (by decide)
        · refine OGo.st (fun _ k => XS.icmpNo X0.here hx rfl (hb hby d6_40) rfl (flt hc40).1 k) ?_
          show OGo p e below s _ _ _ (s₁.setTop (mkF m 43 #[.val (.int p0)] []))
          refine OGo.st (fun _ k => XS.iloadN X0.here hx rfl (hb hby d6_43) rfl k) ?_
          show OGo p e below s _ _ _ (s₁.setTop (mkF m 44 #[.val (.int p0)] [(.int p0)]))
          refine OGo.st (fun _ k => XS.bipush X0.here hx rfl (hb hby d6_44) k) ?_
          show OGo p e below s _ _ _ (s₁.setTop (mkF m 46 #[.val (.int p0)] [(.int (70 : Int32)), (.int p0)]))
          by_cases hc46 : (70 : Int32) < p0
          · refine OGo.st (fun _ k => XS.icmpYes X0.here hx rfl (pc0 := 46) (pc' := 59) rfl (hb hby d6_46) rfl (tlt hc46).2.2.1 (by decide) (by decide) k) ?_
            show OGo p e below s _ _ _ (s₁.setTop (mkF m 59 #[.val (.int p0)] []))
            refine OGo.st (fun _ k => XS.iconst X0.here hx rfl (hb hby d6_59) k) ?_
            show OGo p e below s _ _ _ (s₁.setTop (mkF m 60 #[.val (.int p0)] [(.int (-1 : Int32))]))
            exact oretI X0 hx Bd.notSynchronized Bd.returns (hb hby d6_60) e0 ⟨(congrArg (fun z => some (Value.int z)) (show (-1 : Int32) = f6 p0 from Eq.symm (by unfold f6; exact (if_neg hc3).trans ((if_pos hc9).trans ((if_pos hc20).trans ((if_neg hc40).trans (if_pos hc46))))))), N0, rfl⟩ (by decide) (by decide)
          · refine OGo.st (fun _ k => XS.icmpNo X0.here hx rfl (hb hby d6_46) rfl (flt hc46).2.2.1 k) ?_
            show OGo p e below s _ _ _ (s₁.setTop (mkF m 49 #[.val (.int p0)] []))
            refine OGo.st (fun _ k => XS.iloadN X0.here hx rfl (hb hby d6_49) rfl k) ?_
            show OGo p e below s _ _ _ (s₁.setTop (mkF m 50 #[.val (.int p0)] [(.int p0)]))
            refine OGo.st (fun _ k => XS.bipush X0.here hx rfl (hb hby d6_50) k) ?_
            show OGo p e below s _ _ _ (s₁.setTop (mkF m 52 #[.val (.int p0)] [(.int (65 : Int32)), (.int p0)]))
            refine OGo.st (fun _ k => XS.isub X0.here hx rfl (hb hby d6_52) rfl k) ?_
            show OGo p e below s _ _ _ (s₁.setTop (mkF m 53 #[.val (.int p0)] [(.int (p0 - (65 : Int32)))]))
            refine OGo.st (fun _ k => XS.bipush X0.here hx rfl (hb hby d6_53) k) ?_
            show OGo p e below s _ _ _ (s₁.setTop (mkF m 55 #[.val (.int p0)] [(.int (10 : Int32)), (.int (p0 - (65 : Int32)))]))
            refine OGo.st (fun _ k => XS.iadd X0.here hx rfl (hb hby d6_55) rfl k) ?_
            show OGo p e below s _ _ _ (s₁.setTop (mkF m 56 #[.val (.int p0)] [(.int ((p0 - (65 : Int32)) + (10 : Int32)))]))
            refine OGo.st (fun _ k => XS.goto X0.here hx rfl (pc0 := 56) (pc' := 60) rfl (hb hby d6_56) (by decide) (by decide) k) ?_
            show OGo p e below s _ _ _ (s₁.setTop (mkF m 60 #[.val (.int p0)] [(.int ((p0 - (65 : Int32)) + (10 : Int32)))]))
            exact oretI X0 hx Bd.notSynchronized Bd.returns (hb hby d6_60) e0 ⟨(congrArg (fun z => some (Value.int z)) (show ((p0 - (65 : Int32)) + (10 : Int32)) = f6 p0 from Eq.symm (by unfold f6; exact (if_neg hc3).trans ((if_pos hc9).trans ((if_pos hc20).trans ((if_neg hc40).trans (if_neg hc46))))))), N0, rfl⟩ (by decide) (by decide)
      · refine OGo.st (fun _ k => XS.icmpNo X0.here hx rfl (hb hby d6_20) rfl (flt hc20).1 k) ?_
        show OGo p e below s _ _ _ (s₁.setTop (mkF m 23 #[.val (.int p0)] []))
        refine OGo.st (fun _ k => XS.iloadN X0.here hx rfl (hb hby d6_23) rfl k) ?_
        show OGo p e below s _ _ _ (s₁.setTop (mkF m 24 #[.val (.int p0)] [(.int p0)]))
        refine OGo.st (fun _ k => XS.bipush X0.here hx rfl (hb hby d6_24) k) ?_
        show OGo p e below s _ _ _ (s₁.setTop (mkF m 26 #[.val (.int p0)] [(.int (102 : Int32)), (.int p0)]))
        by_cases hc26 : (102 : Int32) < p0
        · refine OGo.st (fun _ k => XS.icmpYes X0.here hx rfl (pc0 := 26) (pc' := 37) rfl (hb hby d6_26) rfl (tlt hc26).2.2.1 (by decide) (by decide) k) ?_
          show OGo p e below s _ _ _ (s₁.setTop (mkF m 37 #[.val (.int p0)] []))
          refine OGo.st (fun _ k => XS.iloadN X0.here hx rfl (hb hby d6_37) rfl k) ?_
          show OGo p e below s _ _ _ (s₁.setTop (mkF m 38 #[.val (.int p0)] [(.int p0)]))
          refine OGo.st (fun _ k => XS.bipush X0.here hx rfl (hb hby d6_38) k) ?_
          show OGo p e below s _ _ _ (s₁.setTop (mkF m 40 #[.val (.int p0)] [(.int (65 : Int32)), (.int p0)]))
          refine OGo.st (fun _ k => XS.icmpNo X0.here hx rfl (hb hby d6_40) rfl (flt (oGnL hc26 (by decide))).1 k) ?_
          show OGo p e below s _ _ _ (s₁.setTop (mkF m 43 #[.val (.int p0)] []))
          refine OGo.st (fun _ k => XS.iloadN X0.here hx rfl (hb hby d6_43) rfl k) ?_
          show OGo p e below s _ _ _ (s₁.setTop (mkF m 44 #[.val (.int p0)] [(.int p0)]))
          refine OGo.st (fun _ k => XS.bipush X0.here hx rfl (hb hby d6_44) k) ?_
          show OGo p e below s _ _ _ (s₁.setTop (mkF m 46 #[.val (.int p0)] [(.int (70 : Int32)), (.int p0)]))
          refine OGo.st (fun _ k => XS.icmpYes X0.here hx rfl (pc0 := 46) (pc' := 59) rfl (hb hby d6_46) rfl (tlt (oGG hc26 (by decide))).2.2.1 (by decide) (by decide) k) ?_
          show OGo p e below s _ _ _ (s₁.setTop (mkF m 59 #[.val (.int p0)] []))
          refine OGo.st (fun _ k => XS.iconst X0.here hx rfl (hb hby d6_59) k) ?_
          show OGo p e below s _ _ _ (s₁.setTop (mkF m 60 #[.val (.int p0)] [(.int (-1 : Int32))]))
          exact oretI X0 hx Bd.notSynchronized Bd.returns (hb hby d6_60) e0 ⟨(congrArg (fun z => some (Value.int z)) (show (-1 : Int32) = f6 p0 from Eq.symm (by unfold f6; exact (if_neg hc3).trans ((if_pos hc9).trans ((if_neg hc20).trans (if_pos hc26)))))), N0, rfl⟩ (by decide) (by decide)
        · refine OGo.st (fun _ k => XS.icmpNo X0.here hx rfl (hb hby d6_26) rfl (flt hc26).2.2.1 k) ?_
          show OGo p e below s _ _ _ (s₁.setTop (mkF m 29 #[.val (.int p0)] []))
          refine OGo.st (fun _ k => XS.iloadN X0.here hx rfl (hb hby d6_29) rfl k) ?_
          show OGo p e below s _ _ _ (s₁.setTop (mkF m 30 #[.val (.int p0)] [(.int p0)]))
          refine OGo.st (fun _ k => XS.bipush X0.here hx rfl (hb hby d6_30) k) ?_
          show OGo p e below s _ _ _ (s₁.setTop (mkF m 32 #[.val (.int p0)] [(.int (97 : Int32)), (.int p0)]))
          refine OGo.st (fun _ k => XS.isub X0.here hx rfl (hb hby d6_32) rfl k) ?_
          show OGo p e below s _ _ _ (s₁.setTop (mkF m 33 #[.val (.int p0)] [(.int (p0 - (97 : Int32)))]))
          refine OGo.st (fun _ k => XS.bipush X0.here hx rfl (hb hby d6_33) k) ?_
          show OGo p e below s _ _ _ (s₁.setTop (mkF m 35 #[.val (.int p0)] [(.int (10 : Int32)), (.int (p0 - (97 : Int32)))]))
          refine OGo.st (fun _ k => XS.iadd X0.here hx rfl (hb hby d6_35) rfl k) ?_
          show OGo p e below s _ _ _ (s₁.setTop (mkF m 36 #[.val (.int p0)] [(.int ((p0 - (97 : Int32)) + (10 : Int32)))]))
          exact oretI X0 hx Bd.notSynchronized Bd.returns (hb hby d6_36) e0 ⟨(congrArg (fun z => some (Value.int z)) (show ((p0 - (97 : Int32)) + (10 : Int32)) = f6 p0 from Eq.symm (by unfold f6; exact (if_neg hc3).trans ((if_pos hc9).trans ((if_neg hc20).trans (if_neg hc26)))))), N0, rfl⟩ (by decide) (by decide)
    · refine OGo.st (fun _ k => XS.icmpNo X0.here hx rfl (hb hby d6_9) rfl (flt hc9).2.2.1 k) ?_
      show OGo p e below s _ _ _ (s₁.setTop (mkF m 12 #[.val (.int p0)] []))
      refine OGo.st (fun _ k => XS.iloadN X0.here hx rfl (hb hby d6_12) rfl k) ?_
      show OGo p e below s _ _ _ (s₁.setTop (mkF m 13 #[.val (.int p0)] [(.int p0)]))
      refine OGo.st (fun _ k => XS.bipush X0.here hx rfl (hb hby d6_13) k) ?_
      show OGo p e below s _ _ _ (s₁.setTop (mkF m 15 #[.val (.int p0)] [(.int (48 : Int32)), (.int p0)]))
      refine OGo.st (fun _ k => XS.isub X0.here hx rfl (hb hby d6_15) rfl k) ?_
      show OGo p e below s _ _ _ (s₁.setTop (mkF m 16 #[.val (.int p0)] [(.int (p0 - (48 : Int32)))]))
      exact oretI X0 hx Bd.notSynchronized Bd.returns (hb hby d6_16) e0 ⟨(congrArg (fun z => some (Value.int z)) (show (p0 - (48 : Int32)) = f6 p0 from Eq.symm (by unfold f6; exact (if_neg hc3).trans (if_neg hc9)))), N0, rfl⟩ (by decide) (by decide)
theorem own_nn (x : Int32) : ¬ ((x &&& (15 : Int32)) < (0 : Int32)) := by
  have e := Jvm.Kit.i32_mask x 15 (k := 4) (by decide) (by decide)
  rw [Int32.lt_iff_toInt_lt, e, Int32.toInt_zero]; omega
theorem own_lt (x : Int32) : (x &&& (15 : Int32)) < (16 : Int32) := by
  have e := Jvm.Kit.i32_mask x 15 (k := 4) (by decide) (by decide)
  have k : (16 : Int32).toInt = 16 := by decide
  rw [Int32.lt_iff_toInt_lt, e, k]; omega
theorem own_15 {x : Int32} (h : ¬ ((15 : Int32) < x)) : x < (16 : Int32) := onGL h (by decide)
theorem own_wS {Z : State} {a0 : Array Value} (hw : ∀ d ∈ tables_1, d.before a0 Z = true) : ∀ a ∈ Bundle.stringAtoms, a.before a0 Z = true := by
  intro d hd
  simp only [Bundle.stringAtoms, List.mem_cons, List.not_mem_nil, or_false] at hd
  rcases hd with rfl | rfl | rfl | rfl | rfl | rfl | rfl
  · exact (hw _ (List.mem_of_getElem? (i := 1) rfl))
  · exact (hw _ (List.mem_of_getElem? (i := 2) rfl))
  · exact (hw _ (List.mem_of_getElem? (i := 3) rfl))
  · exact (hw _ (List.mem_of_getElem? (i := 4) rfl))
  · exact (hw _ (List.mem_of_getElem? (i := 5) rfl))
  · exact (hw _ (List.mem_of_getElem? (i := 6) rfl))
  · exact (hw _ (List.mem_of_getElem? (i := 7) rfl))
theorem pn_0 : plainName "com/example/evbind/evbind/AsciiHexValuePinLaw" = true := by first | (simp [plainName, overriddenIn]; done) | decide +kernel
theorem pd_0_0 : parseMethodDescriptor "(I)C" = some ⟨[.int], some .char⟩ := by decide +kernel
theorem pd_0_1 : parseMethodDescriptor "(I)I" = some ⟨[.int], some .int⟩ := by decide +kernel
theorem ef_0 (m : MethodId) (p0 : Int32) (p1 : Int32) : entryFrame m #[(.int p0), (.int p1)] maxLocals = mkF m 0 #[.val (.int p0), .val (.int p1), .unset, .unset, .unset, .unset] [] := by first | (simp [entryFrame, mkF, argsToLocals, Value.category, maxLocals]; done) | rfl
def f0 (p0 : Int32) (p1 : Int32) (w_F : Value) (w_CS : Int32) : Int32 := (if (f6 (f1lo (p1 &&& (15 : Int32)))) = (p1 &&& (15 : Int32)) then (if (f6 (f1up (p1 &&& (15 : Int32)))) = (p1 &&& (15 : Int32)) then (if (f6 p0) = (-1 : Int32) then (1 : Int32) else (if (f6 p0) < (0 : Int32) then (0 : Int32) else (if (15 : Int32) < (f6 p0) then (0 : Int32) else (if p0 = (f1lo (f6 p0)) then (1 : Int32) else (if p0 = (f1up (f6 p0)) then (1 : Int32) else (0 : Int32)))))) else (0 : Int32)) else (0 : Int32))
def Q0 (Z : State) (p0 : Int32) (p1 : Int32) (w_F : Value) (w_CS : Int32) (h0 : Heap) (n0 : Nat) (v : Option Value) (h : Heap) (L : List Loc) : Prop := v = some (.int (f0 p0 p1 w_F w_CS)) ∧ Fr n0 L
set_option maxRecDepth 65536 in
set_option maxHeartbeats 40000000 in
theorem rm0 (l : Launch) (Z : State) (a0 : Array Value) (hw : ∀ d ∈ tables_1, d.before a0 Z = true) (ws : List Jvm.Cond) (p0 : Int32) (p1 : Int32) (w_F : Value) (w_CS : Int32) (h0 : Heap) (n0 : Nat) (Z0 : n0 ≤ h0.size) (S_F : Sta Z h0 "jdk/internal/util/Preconditions" "SIOOBE_FORMATTER" "Ljava/util/function/BiFunction;" w_F) (S_CS : Sta Z h0 "java/lang/String" "COMPACT_STRINGS" "Z" (.int w_CS)) (hcs : ¬ (w_CS = (0 : Int32))) (hZh : Z.heap = h0) (hcw : Jvm.Lit.compactW.before a0 Z = true) (hC7 : Jvm.Lit.constHeld Z "com/example/evbind/evbind/AsciiHexValuePinLaw" 7) (hC9 : Jvm.Lit.constHeld Z "com/example/evbind/evbind/AsciiHexValuePinLaw" 9) (hr_w_F : w_F.isRef = true) :
    MetFree l x (head1 (Jvm.Cond.code x code maxLocals ret :: ws) room_1) (fun a U => a = #[(.int p0), (.int p1)] ∧ Z.Warmed39 U.vm ∧ U.heap = h0 ∧ IB Z U.vm []) (fun _ _ _ _ _ => True) (fun _ U o U' => ∃ v L, o = .returned v ∧ Q0 Z p0 p1 w_F w_CS h0 n0 v U'.heap L ∧ ReturnedEndW U o U' L room_1.cells room_1.slots) := by
  refine MetFree.of_bodySF (plainFor_of_name pn_0) hisR ?_
  intro p e s m args below meth c s₁ Bd hml0 hP hK
  obtain ⟨rfl, hZ, hh, hIB⟩ := hP
  have hx := Bd.exec
  have hby := Bd.bytes
  have hml : c.maxLocals = 6 := hml0
  have hown : s.vm.findClass "com/example/evbind/evbind/AsciiHexValuePinLaw" = some m.cls := findClass_of_methodNamed Bd.named
  have hnm := (name_of_methodNamed Bd.named Bd.method).1
  have X0 : Stand p l e room_1 (s.setVm s.vm) m #[(.int p0), (.int p1)] below meth c s₁ [] 0 0 := Stand.of_body Bd
  have e0 : s₁.heap = h0 := by rw [← hh, Bd.state]; rfl
  have N0 := Fr.nil n0
  have hZ : Z.Warmed39 (s.setVm s.vm).vm := hZ
  have hown : (s.setVm s.vm).vm.findClass "com/example/evbind/evbind/AsciiHexValuePinLaw" = some m.cls := hown
  have hS0 : s.Since s.vm s.heap.size := (State.WarmedH.refl s).since _
  have hk0 : s.heap.size ≤ h0.size := by rw [← hh]; exact Nat.le_refl _
  have wS : ∀ a ∈ Bundle.stringAtoms, a.before a0 Z = true := own_wS hw
  have hkeep : ∀ (b : Addr) (cl : Cell), Z.heap[b]? = some cl → s.heap[b]? = some cl := by rw [hZh, hh]; exact fun _ _ q => q
  show OGoW p e below s (Q0 Z p0 p1 w_F w_CS h0 n0) room_1.cells room_1.slots _
  refine OGoW.st (fun _ k => castTop (ef_0 m p0 p1) k) ?_
  show OGoW p e below s _ _ _ (s₁.setTop (mkF m 0 #[.val (.int p0), .val (.int p1), .unset, .unset, .unset, .unset] []))
  obtain ⟨b1, T1, h1, kk1, c1, k1, X1, e1, E1, hS1, hk1, hZ, hown, Ea1, Fc1, Fv1, Va1, -, -, hIB1, -, -, st1⟩ := ldcSVd X0 hx hZ hown (hw _ (List.mem_of_getElem? (i := 0) rfl)) wS e0 hS0 hk0 (Fr.nil _) hkeep hIB (by decide) hC7 hcw (vs := [(.int (48 : Int32)), (.int (49 : Int32)), (.int (50 : Int32)), (.int (51 : Int32)), (.int (52 : Int32)), (.int (53 : Int32)), (.int (54 : Int32)), (.int (55 : Int32)), (.int (56 : Int32)), (.int (57 : Int32)), (.int (97 : Int32)), (.int (98 : Int32)), (.int (99 : Int32)), (.int (100 : Int32)), (.int (101 : Int32)), (.int (102 : Int32))]) (z := (16 : Int32)) ⟨by decide, rfl⟩ (by decide) rfl (g := (mkF m 0 #[.val (.int p0), .val (.int p1), .unset, .unset, .unset, .unset] [])) rfl (hb hby at_0) (n := 64) (by decide) (by decide) (by decide) (by decide)
  refine OGoW.st st1 ?_
  have S_F_w1 := S_F.ext E1
  have S_CS_w1 := S_CS.ext E1
  have K1 : Keep h0 h1 [] := (Keep.refl h0 _).ext E1
  have Z1 : n0 ≤ h1.size := Nat.le_trans Z0 E1.1
  show OGoW p e below s _ _ _ (T1.setTop (mkF m 2 #[.val (.int p0), .val (.int p1), .unset, .unset, .unset, .unset] [(.ref b1)]))
  refine OGoW.st (fun _ k => XS.astoreN X1.here hx rfl (hb hby at_2) rfl rfl (l' := #[.val (.int p0), .val (.int p1), .val (.ref b1), .unset, .unset, .unset]) rfl k) ?_
  show OGoW p e below s _ _ _ (T1.setTop (mkF m 3 #[.val (.int p0), .val (.int p1), .val (.ref b1), .unset, .unset, .unset] []))
  obtain ⟨b2, T2, h2, kk2, c2, k2, X2, e2, E2, hS2, hk2, hZ, hown, Ea2, Fc2, Fv2, Va2, -, -, hIB2, -, -, st2⟩ := ldcSVd X1 hx hZ hown (hw _ (List.mem_of_getElem? (i := 8) rfl)) wS e1 hS1 hk1 (Fr.nil _) hkeep hIB1 (by decide) hC9 hcw (vs := [(.int (48 : Int32)), (.int (49 : Int32)), (.int (50 : Int32)), (.int (51 : Int32)), (.int (52 : Int32)), (.int (53 : Int32)), (.int (54 : Int32)), (.int (55 : Int32)), (.int (56 : Int32)), (.int (57 : Int32)), (.int (65 : Int32)), (.int (66 : Int32)), (.int (67 : Int32)), (.int (68 : Int32)), (.int (69 : Int32)), (.int (70 : Int32))]) (z := (16 : Int32)) ⟨by decide, rfl⟩ (by decide) rfl (g := (mkF m 3 #[.val (.int p0), .val (.int p1), .val (.ref b1), .unset, .unset, .unset] [])) rfl (hb hby at_3) (n := 64) (by decide) (by decide) (by decide) (by decide)
  refine OGoW.st st2 ?_
  have S_F_w2 := S_F_w1.ext E2
  have S_CS_w2 := S_CS_w1.ext E2
  have Ea1_w2 := Ea1.ext E2
  have Fc1_w2 := Fc1.ext E2
  have Fv1_w2 := Fv1.ext E2
  have Va1_w2 := Va1.ext E2
  have K2 : Keep h0 h2 [] := (K1).ext E2
  have Z2 : n0 ≤ h2.size := Nat.le_trans Z1 E2.1
  show OGoW p e below s _ _ _ (T2.setTop (mkF m 5 #[.val (.int p0), .val (.int p1), .val (.ref b1), .unset, .unset, .unset] [(.ref b2)]))
  refine OGoW.st (fun _ k => XS.astoreN X2.here hx rfl (hb hby at_5) rfl rfl (l' := #[.val (.int p0), .val (.int p1), .val (.ref b1), .val (.ref b2), .unset, .unset]) rfl k) ?_
  show OGoW p e below s _ _ _ (T2.setTop (mkF m 6 #[.val (.int p0), .val (.int p1), .val (.ref b1), .val (.ref b2), .unset, .unset] []))
  refine OGoW.st (fun _ k => XS.iloadN X2.here hx rfl (hb hby at_6) rfl k) ?_
  show OGoW p e below s _ _ _ (T2.setTop (mkF m 7 #[.val (.int p0), .val (.int p1), .val (.ref b1), .val (.ref b2), .unset, .unset] [(.int p1)]))
  refine OGoW.st (fun _ k => XS.bipush X2.here hx rfl (hb hby at_7) k) ?_
  show OGoW p e below s _ _ _ (T2.setTop (mkF m 9 #[.val (.int p0), .val (.int p1), .val (.ref b1), .val (.ref b2), .unset, .unset] [(.int (15 : Int32)), (.int p1)]))
  refine OGoW.st (fun _ k => XS.iand X2.here hx rfl (hb hby at_9) rfl k) ?_
  show OGoW p e below s _ _ _ (T2.setTop (mkF m 10 #[.val (.int p0), .val (.int p1), .val (.ref b1), .val (.ref b2), .unset, .unset] [(.int (p1 &&& (15 : Int32)))]))
  refine OGoW.st (fun _ k => XS.istore X2.here hx rfl (hb hby at_10) rfl (l' := #[.val (.int p0), .val (.int p1), .val (.ref b1), .val (.ref b2), .val (.int (p1 &&& (15 : Int32))), .unset]) rfl k) ?_
  show OGoW p e below s _ _ _ (T2.setTop (mkF m 12 #[.val (.int p0), .val (.int p1), .val (.ref b1), .val (.ref b2), .val (.int (p1 &&& (15 : Int32))), .unset] []))
  refine OGoW.st (fun _ k => XS.aloadN X2.here hx rfl (hb hby at_12) rfl rfl k) ?_
  show OGoW p e below s _ _ _ (T2.setTop (mkF m 13 #[.val (.int p0), .val (.int p1), .val (.ref b1), .val (.ref b2), .val (.int (p1 &&& (15 : Int32))), .unset] [(.ref b1)]))
  refine OGoW.st (fun _ k => XS.iload X2.here hx rfl (hb hby at_13) rfl k) ?_
  show OGoW p e below s _ _ _ (T2.setTop (mkF m 15 #[.val (.int p0), .val (.int p1), .val (.ref b1), .val (.ref b2), .val (.int (p1 &&& (15 : Int32))), .unset] [(.int (p1 &&& (15 : Int32))), (.ref b1)]))
  obtain ⟨cq3, kq3, q3a, q3b, q3c⟩ := isOf hZ e2 Ea1_w2
  obtain ⟨_, _, ⟨T3, L3, k3, n3⟩, -, X3, ⟨Lc3, hQ3, l3, y3, z3⟩, st3⟩ := X2.virtualBack hx (y := (⟨"java/lang/String", "charAt", "(I)C"⟩ : MethodName)) (z := (⟨"java/lang/String", "charAt", "(I)C"⟩ : MethodName)) hown (mvT hZ (hw _ (List.mem_of_getElem? (i := 9) rfl))) (mvT hZ (hw _ (List.mem_of_getElem? (i := 10) rfl))) (notFace_of_selects (args := #[]) (mvT hZ (hw _ (List.mem_of_getElem? (i := 12) rfl)))) (mvT hZ (hw _ (List.mem_of_getElem? (i := 12) rfl))) (mvT hZ (hw _ (List.mem_of_getElem? (i := 11) rfl))) (by decide) (backOf (W := 0) (rm1lo l Z a0 hw [] b1 (p1 &&& (15 : Int32)) c1 k1 w_F w_CS h2 n0 Z2 Ea1_w2 Fc1_w2 Fv1_w2 Va1_w2 S_F_w2 S_CS_w2 hcs (own_nn _) (own_lt _) hr_w_F) hZ (hw _ (List.mem_of_getElem? (i := 13) rfl)) (hw _ (List.mem_of_getElem? (i := 1) rfl)) (by decide) (by decide)) q3a q3c (g := (mkF m 15 #[.val (.int p0), .val (.int p1), .val (.ref b1), .val (.ref b2), .val (.int (p1 &&& (15 : Int32))), .unset] [(.int (p1 &&& (15 : Int32))), (.ref b1)])) rfl (by rw [hml]; rfl) (Steps.refl _) (argsL := [(.int (p1 &&& (15 : Int32)))]) (rest := []) (lenOf pd_0_0 rfl) rfl (by show 2 * 0 + _ ≤ _; exact Nat.le_of_eq rfl) (hb hby at_15) (fun _ _ => ⟨rfl, e2, (by decide : 4 + 0 ≤ _), (by decide : 136 + 0 ≤ _)⟩)
  dsimp only [Pt.U, Pt.locs, Pt.cells, Pt.slots] at X3 l3 y3 z3 st3 hQ3
  subst l3 y3 z3
  obtain ⟨rfl, N3q, e3⟩ := hQ3
  have N3 := Fr.app N0 N3q
  refine OGoW.st (fun _ k => st3.trans k) ?_
  show OGoW p e below s _ _ _ (T3.setTop (mkF m 18 #[.val (.int p0), .val (.int p1), .val (.ref b1), .val (.ref b2), .val (.int (p1 &&& (15 : Int32))), .unset] [(.int (f1lo (p1 &&& (15 : Int32))))]))
  obtain ⟨_, _, ⟨T4, L4, k4, n4⟩, -, X4, ⟨Lc4, hQ4, l4, y4, z4⟩, st4⟩ := Jvm.LawKit.callS X3 hx (y := (⟨"com/example/evbind/evbind/Ascii", "hexValue", "(I)I"⟩ : MethodName)) hown (mvT hZ (hw _ (List.mem_of_getElem? (i := 34) rfl))) (mvT hZ (hw _ (List.mem_of_getElem? (i := 35) rfl))) (mvT hZ (hw _ (List.mem_of_getElem? (i := 36) rfl))) (mvT hZ (hw _ (List.mem_of_getElem? (i := 37) rfl))) (by decide) (backOf (W := 0) (rm6 l Z a0 hw [] (f1lo (p1 &&& (15 : Int32))) h2 n0 Z2) hZ (hw _ (List.mem_of_getElem? (i := 37) rfl)) (hw _ (List.mem_of_getElem? (i := 36) rfl)) (by decide) (by decide)) (g := (mkF m 18 #[.val (.int p0), .val (.int p1), .val (.ref b1), .val (.ref b2), .val (.int (p1 &&& (15 : Int32))), .unset] [(.int (f1lo (p1 &&& (15 : Int32))))])) rfl (by rw [hml]; rfl) (argsL := [(.int (f1lo (p1 &&& (15 : Int32))))]) (rest := []) (lenOf pd_0_1 rfl) rfl (by show 2 * 0 + _ ≤ _; exact Nat.le_of_eq rfl) (hb hby at_18) (fun _ _ => ⟨rfl, e3, (by decide : 4 + 0 ≤ _), (by decide : 136 + 0 ≤ _)⟩)
  dsimp only [Pt.U, Pt.locs, Pt.cells, Pt.slots] at X4 l4 y4 z4 st4 hQ4
  subst l4 y4 z4
  obtain ⟨rfl, N4q, e4⟩ := hQ4
  have N4 := Fr.app N3 N4q
  refine OGoW.st st4 ?_
  show OGoW p e below s _ _ _ (T4.setTop (mkF m 21 #[.val (.int p0), .val (.int p1), .val (.ref b1), .val (.ref b2), .val (.int (p1 &&& (15 : Int32))), .unset] [(.int (f6 (f1lo (p1 &&& (15 : Int32)))))]))
  refine OGoW.st (fun _ k => XS.iload X4.here hx rfl (hb hby at_21) rfl k) ?_
  show OGoW p e below s _ _ _ (T4.setTop (mkF m 23 #[.val (.int p0), .val (.int p1), .val (.ref b1), .val (.ref b2), .val (.int (p1 &&& (15 : Int32))), .unset] [(.int (p1 &&& (15 : Int32))), (.int (f6 (f1lo (p1 &&& (15 : Int32)))))]))
  by_cases hc23 : (f6 (f1lo (p1 &&& (15 : Int32)))) = (p1 &&& (15 : Int32))
  · refine OGoW.st (fun _ k => XS.icmpYes X4.here hx rfl (pc0 := 23) (pc' := 28) rfl (hb hby at_23) rfl (teq hc23).1 (by decide) (by decide) k) ?_
    show OGoW p e below s _ _ _ (T4.setTop (mkF m 28 #[.val (.int p0), .val (.int p1), .val (.ref b1), .val (.ref b2), .val (.int (p1 &&& (15 : Int32))), .unset] []))
    refine OGoW.st (fun _ k => XS.aloadN X4.here hx rfl (hb hby at_28) rfl rfl k) ?_
    show OGoW p e below s _ _ _ (T4.setTop (mkF m 29 #[.val (.int p0), .val (.int p1), .val (.ref b1), .val (.ref b2), .val (.int (p1 &&& (15 : Int32))), .unset] [(.ref b2)]))
    refine OGoW.st (fun _ k => XS.iload X4.here hx rfl (hb hby at_29) rfl k) ?_
    show OGoW p e below s _ _ _ (T4.setTop (mkF m 31 #[.val (.int p0), .val (.int p1), .val (.ref b1), .val (.ref b2), .val (.int (p1 &&& (15 : Int32))), .unset] [(.int (p1 &&& (15 : Int32))), (.ref b2)]))
    obtain ⟨cq5, kq5, q5a, q5b, q5c⟩ := isOf hZ e4 Ea2
    obtain ⟨_, _, ⟨T5, L5, k5, n5⟩, -, X5, ⟨Lc5, hQ5, l5, y5, z5⟩, st5⟩ := X4.virtualBack hx (y := (⟨"java/lang/String", "charAt", "(I)C"⟩ : MethodName)) (z := (⟨"java/lang/String", "charAt", "(I)C"⟩ : MethodName)) hown (mvT hZ (hw _ (List.mem_of_getElem? (i := 9) rfl))) (mvT hZ (hw _ (List.mem_of_getElem? (i := 10) rfl))) (notFace_of_selects (args := #[]) (mvT hZ (hw _ (List.mem_of_getElem? (i := 12) rfl)))) (mvT hZ (hw _ (List.mem_of_getElem? (i := 12) rfl))) (mvT hZ (hw _ (List.mem_of_getElem? (i := 11) rfl))) (by decide) (backOf (W := 0) (rm1up l Z a0 hw [] b2 (p1 &&& (15 : Int32)) c2 k2 w_F w_CS h2 n0 Z2 Ea2 Fc2 Fv2 Va2 S_F_w2 S_CS_w2 hcs (own_nn _) (own_lt _) hr_w_F) hZ (hw _ (List.mem_of_getElem? (i := 13) rfl)) (hw _ (List.mem_of_getElem? (i := 1) rfl)) (by decide) (by decide)) q5a q5c (g := (mkF m 31 #[.val (.int p0), .val (.int p1), .val (.ref b1), .val (.ref b2), .val (.int (p1 &&& (15 : Int32))), .unset] [(.int (p1 &&& (15 : Int32))), (.ref b2)])) rfl (by rw [hml]; rfl) (Steps.refl _) (argsL := [(.int (p1 &&& (15 : Int32)))]) (rest := []) (lenOf pd_0_0 rfl) rfl (by show 2 * 0 + _ ≤ _; exact Nat.le_of_eq rfl) (hb hby at_31) (fun _ _ => ⟨rfl, e4, (by decide : 4 + 0 ≤ _), (by decide : 136 + 0 ≤ _)⟩)
    dsimp only [Pt.U, Pt.locs, Pt.cells, Pt.slots] at X5 l5 y5 z5 st5 hQ5
    subst l5 y5 z5
    obtain ⟨rfl, N5q, e5⟩ := hQ5
    have N5 := Fr.app N4 N5q
    refine OGoW.st (fun _ k => st5.trans k) ?_
    show OGoW p e below s _ _ _ (T5.setTop (mkF m 34 #[.val (.int p0), .val (.int p1), .val (.ref b1), .val (.ref b2), .val (.int (p1 &&& (15 : Int32))), .unset] [(.int (f1up (p1 &&& (15 : Int32))))]))
    obtain ⟨_, _, ⟨T6, L6, k6, n6⟩, -, X6, ⟨Lc6, hQ6, l6, y6, z6⟩, st6⟩ := Jvm.LawKit.callS X5 hx (y := (⟨"com/example/evbind/evbind/Ascii", "hexValue", "(I)I"⟩ : MethodName)) hown (mvT hZ (hw _ (List.mem_of_getElem? (i := 34) rfl))) (mvT hZ (hw _ (List.mem_of_getElem? (i := 35) rfl))) (mvT hZ (hw _ (List.mem_of_getElem? (i := 36) rfl))) (mvT hZ (hw _ (List.mem_of_getElem? (i := 37) rfl))) (by decide) (backOf (W := 0) (rm6 l Z a0 hw [] (f1up (p1 &&& (15 : Int32))) h2 n0 Z2) hZ (hw _ (List.mem_of_getElem? (i := 37) rfl)) (hw _ (List.mem_of_getElem? (i := 36) rfl)) (by decide) (by decide)) (g := (mkF m 34 #[.val (.int p0), .val (.int p1), .val (.ref b1), .val (.ref b2), .val (.int (p1 &&& (15 : Int32))), .unset] [(.int (f1up (p1 &&& (15 : Int32))))])) rfl (by rw [hml]; rfl) (argsL := [(.int (f1up (p1 &&& (15 : Int32))))]) (rest := []) (lenOf pd_0_1 rfl) rfl (by show 2 * 0 + _ ≤ _; exact Nat.le_of_eq rfl) (hb hby at_34) (fun _ _ => ⟨rfl, e5, (by decide : 4 + 0 ≤ _), (by decide : 136 + 0 ≤ _)⟩)
    dsimp only [Pt.U, Pt.locs, Pt.cells, Pt.slots] at X6 l6 y6 z6 st6 hQ6
    subst l6 y6 z6
    obtain ⟨rfl, N6q, e6⟩ := hQ6
    have N6 := Fr.app N5 N6q
    refine OGoW.st st6 ?_
    show OGoW p e below s _ _ _ (T6.setTop (mkF m 37 #[.val (.int p0), .val (.int p1), .val (.ref b1), .val (.ref b2), .val (.int (p1 &&& (15 : Int32))), .unset] [(.int (f6 (f1up (p1 &&& (15 : Int32)))))]))
    refine OGoW.st (fun _ k => XS.iload X6.here hx rfl (hb hby at_37) rfl k) ?_
    show OGoW p e below s _ _ _ (T6.setTop (mkF m 39 #[.val (.int p0), .val (.int p1), .val (.ref b1), .val (.ref b2), .val (.int (p1 &&& (15 : Int32))), .unset] [(.int (p1 &&& (15 : Int32))), (.int (f6 (f1up (p1 &&& (15 : Int32)))))]))
    by_cases hc39 : (f6 (f1up (p1 &&& (15 : Int32)))) = (p1 &&& (15 : Int32))
    · refine OGoW.st (fun _ k => XS.icmpYes X6.here hx rfl (pc0 := 39) (pc' := 44) rfl (hb hby at_39) rfl (teq hc39).1 (by decide) (by decide) k) ?_
      show OGoW p e below s _ _ _ (T6.setTop (mkF m 44 #[.val (.int p0), .val (.int p1), .val (.ref b1), .val (.ref b2), .val (.int (p1 &&& (15 : Int32))), .unset] []))
      refine OGoW.st (fun _ k => XS.iloadN X6.here hx rfl (hb hby at_44) rfl k) ?_
      show OGoW p e below s _ _ _ (T6.setTop (mkF m 45 #[.val (.int p0), .val (.int p1), .val (.ref b1), .val (.ref b2), .val (.int (p1 &&& (15 : Int32))), .unset] [(.int p0)]))
      obtain ⟨_, _, ⟨T7, L7, k7, n7⟩, -, X7, ⟨Lc7, hQ7, l7, y7, z7⟩, st7⟩ := Jvm.LawKit.callS X6 hx (y := (⟨"com/example/evbind/evbind/Ascii", "hexValue", "(I)I"⟩ : MethodName)) hown (mvT hZ (hw _ (List.mem_of_getElem? (i := 34) rfl))) (mvT hZ (hw _ (List.mem_of_getElem? (i := 35) rfl))) (mvT hZ (hw _ (List.mem_of_getElem? (i := 36) rfl))) (mvT hZ (hw _ (List.mem_of_getElem? (i := 37) rfl))) (by decide) (backOf (W := 0) (rm6 l Z a0 hw [] p0 h2 n0 Z2) hZ (hw _ (List.mem_of_getElem? (i := 37) rfl)) (hw _ (List.mem_of_getElem? (i := 36) rfl)) (by decide) (by decide)) (g := (mkF m 45 #[.val (.int p0), .val (.int p1), .val (.ref b1), .val (.ref b2), .val (.int (p1 &&& (15 : Int32))), .unset] [(.int p0)])) rfl (by rw [hml]; rfl) (argsL := [(.int p0)]) (rest := []) (lenOf pd_0_1 rfl) rfl (by show 2 * 0 + _ ≤ _; exact Nat.le_of_eq rfl) (hb hby at_45) (fun _ _ => ⟨rfl, e6, (by decide : 4 + 0 ≤ _), (by decide : 136 + 0 ≤ _)⟩)
      dsimp only [Pt.U, Pt.locs, Pt.cells, Pt.slots] at X7 l7 y7 z7 st7 hQ7
      subst l7 y7 z7
      obtain ⟨rfl, N7q, e7⟩ := hQ7
      have N7 := Fr.app N6 N7q
      refine OGoW.st st7 ?_
      show OGoW p e below s _ _ _ (T7.setTop (mkF m 48 #[.val (.int p0), .val (.int p1), .val (.ref b1), .val (.ref b2), .val (.int (p1 &&& (15 : Int32))), .unset] [(.int (f6 p0))]))
      refine OGoW.st (fun _ k => XS.istore X7.here hx rfl (hb hby at_48) rfl (l' := #[.val (.int p0), .val (.int p1), .val (.ref b1), .val (.ref b2), .val (.int (p1 &&& (15 : Int32))), .val (.int (f6 p0))]) rfl k) ?_
      show OGoW p e below s _ _ _ (T7.setTop (mkF m 50 #[.val (.int p0), .val (.int p1), .val (.ref b1), .val (.ref b2), .val (.int (p1 &&& (15 : Int32))), .val (.int (f6 p0))] []))
      refine OGoW.st (fun _ k => XS.iload X7.here hx rfl (hb hby at_50) rfl k) ?_
      show OGoW p e below s _ _ _ (T7.setTop (mkF m 52 #[.val (.int p0), .val (.int p1), .val (.ref b1), .val (.ref b2), .val (.int (p1 &&& (15 : Int32))), .val (.int (f6 p0))] [(.int (f6 p0))]))
      refine OGoW.st (fun _ k => XS.iconst X7.here hx rfl (hb hby at_52) k) ?_
      show OGoW p e below s _ _ _ (T7.setTop (mkF m 53 #[.val (.int p0), .val (.int p1), .val (.ref b1), .val (.ref b2), .val (.int (p1 &&& (15 : Int32))), .val (.int (f6 p0))] [(.int (-1 : Int32)), (.int (f6 p0))]))
      by_cases hc53 : (f6 p0) = (-1 : Int32)
      · refine OGoW.st (fun _ k => XS.icmpNo X7.here hx rfl (hb hby at_53) rfl (teq hc53).2 k) ?_
        show OGoW p e below s _ _ _ (T7.setTop (mkF m 56 #[.val (.int p0), .val (.int p1), .val (.ref b1), .val (.ref b2), .val (.int (p1 &&& (15 : Int32))), .val (.int (f6 p0))] []))
        refine OGoW.st (fun _ k => XS.iconst X7.here hx rfl (hb hby at_56) k) ?_
        show OGoW p e below s _ _ _ (T7.setTop (mkF m 57 #[.val (.int p0), .val (.int p1), .val (.ref b1), .val (.ref b2), .val (.int (p1 &&& (15 : Int32))), .val (.int (f6 p0))] [(.int (1 : Int32))]))
        exact oretNW X7 hx hS2 (by rw [e7]; exact hk2) Bd.notSynchronized (t := .boolean) Bd.returns (by simp) (hb hby at_57) (z' := (1 : Int32)) (by decide) e7 ⟨(congrArg (fun z => some (Value.int z)) (show (1 : Int32) = f0 p0 p1 w_F w_CS from Eq.symm (by unfold f0; exact (if_pos hc23).trans ((if_pos hc39).trans (if_pos hc53))))), N7⟩ (by decide) (by decide)
      · refine OGoW.st (fun _ k => XS.icmpYes X7.here hx rfl (pc0 := 53) (pc' := 58) rfl (hb hby at_53) rfl (feq hc53).2 (by decide) (by decide) k) ?_
        show OGoW p e below s _ _ _ (T7.setTop (mkF m 58 #[.val (.int p0), .val (.int p1), .val (.ref b1), .val (.ref b2), .val (.int (p1 &&& (15 : Int32))), .val (.int (f6 p0))] []))
        refine OGoW.st (fun _ k => XS.iload X7.here hx rfl (hb hby at_58) rfl k) ?_
        show OGoW p e below s _ _ _ (T7.setTop (mkF m 60 #[.val (.int p0), .val (.int p1), .val (.ref b1), .val (.ref b2), .val (.int (p1 &&& (15 : Int32))), .val (.int (f6 p0))] [(.int (f6 p0))]))
        by_cases hc60 : (f6 p0) < (0 : Int32)
        · refine OGoW.st (fun _ k => XS.ifYes X7.here hx rfl (pc0 := 60) (pc' := 70) rfl (hb hby at_60) rfl ((if0 _ _).trans (tlt hc60).1) (by decide) (by decide) k) ?_
          show OGoW p e below s _ _ _ (T7.setTop (mkF m 70 #[.val (.int p0), .val (.int p1), .val (.ref b1), .val (.ref b2), .val (.int (p1 &&& (15 : Int32))), .val (.int (f6 p0))] []))
          refine OGoW.st (fun _ k => XS.iconst X7.here hx rfl (hb hby at_70) k) ?_
          show OGoW p e below s _ _ _ (T7.setTop (mkF m 71 #[.val (.int p0), .val (.int p1), .val (.ref b1), .val (.ref b2), .val (.int (p1 &&& (15 : Int32))), .val (.int (f6 p0))] [(.int (0 : Int32))]))
          exact oretNW X7 hx hS2 (by rw [e7]; exact hk2) Bd.notSynchronized (t := .boolean) Bd.returns (by simp) (hb hby at_71) (z' := (0 : Int32)) (by decide) e7 ⟨(congrArg (fun z => some (Value.int z)) (show (0 : Int32) = f0 p0 p1 w_F w_CS from Eq.symm (by unfold f0; exact (if_pos hc23).trans ((if_pos hc39).trans ((if_neg hc53).trans (if_pos hc60)))))), N7⟩ (by decide) (by decide)
        · refine OGoW.st (fun _ k => XS.ifNo X7.here hx rfl (hb hby at_60) rfl ((if0 _ _).trans (flt hc60).1) k) ?_
          show OGoW p e below s _ _ _ (T7.setTop (mkF m 63 #[.val (.int p0), .val (.int p1), .val (.ref b1), .val (.ref b2), .val (.int (p1 &&& (15 : Int32))), .val (.int (f6 p0))] []))
          refine OGoW.st (fun _ k => XS.iload X7.here hx rfl (hb hby at_63) rfl k) ?_
          show OGoW p e below s _ _ _ (T7.setTop (mkF m 65 #[.val (.int p0), .val (.int p1), .val (.ref b1), .val (.ref b2), .val (.int (p1 &&& (15 : Int32))), .val (.int (f6 p0))] [(.int (f6 p0))]))
          refine OGoW.st (fun _ k => XS.bipush X7.here hx rfl (hb hby at_65) k) ?_
          show OGoW p e below s _ _ _ (T7.setTop (mkF m 67 #[.val (.int p0), .val (.int p1), .val (.ref b1), .val (.ref b2), .val (.int (p1 &&& (15 : Int32))), .val (.int (f6 p0))] [(.int (15 : Int32)), (.int (f6 p0))]))
          by_cases hc67 : (15 : Int32) < (f6 p0)
          · refine OGoW.st (fun _ k => XS.icmpNo X7.here hx rfl (hb hby at_67) rfl (tlt hc67).2.2.2 k) ?_
            show OGoW p e below s _ _ _ (T7.setTop (mkF m 70 #[.val (.int p0), .val (.int p1), .val (.ref b1), .val (.ref b2), .val (.int (p1 &&& (15 : Int32))), .val (.int (f6 p0))] []))
            refine OGoW.st (fun _ k => XS.iconst X7.here hx rfl (hb hby at_70) k) ?_
            show OGoW p e below s _ _ _ (T7.setTop (mkF m 71 #[.val (.int p0), .val (.int p1), .val (.ref b1), .val (.ref b2), .val (.int (p1 &&& (15 : Int32))), .val (.int (f6 p0))] [(.int (0 : Int32))]))
            exact oretNW X7 hx hS2 (by rw [e7]; exact hk2) Bd.notSynchronized (t := .boolean) Bd.returns (by simp) (hb hby at_71) (z' := (0 : Int32)) (by decide) e7 ⟨(congrArg (fun z => some (Value.int z)) (show (0 : Int32) = f0 p0 p1 w_F w_CS from Eq.symm (by unfold f0; exact (if_pos hc23).trans ((if_pos hc39).trans ((if_neg hc53).trans ((if_neg hc60).trans (if_pos hc67))))))), N7⟩ (by decide) (by decide)
          · refine OGoW.st (fun _ k => XS.icmpYes X7.here hx rfl (pc0 := 67) (pc' := 72) rfl (hb hby at_67) rfl (flt hc67).2.2.2 (by decide) (by decide) k) ?_
            show OGoW p e below s _ _ _ (T7.setTop (mkF m 72 #[.val (.int p0), .val (.int p1), .val (.ref b1), .val (.ref b2), .val (.int (p1 &&& (15 : Int32))), .val (.int (f6 p0))] []))
            refine OGoW.st (fun _ k => XS.iloadN X7.here hx rfl (hb hby at_72) rfl k) ?_
            show OGoW p e below s _ _ _ (T7.setTop (mkF m 73 #[.val (.int p0), .val (.int p1), .val (.ref b1), .val (.ref b2), .val (.int (p1 &&& (15 : Int32))), .val (.int (f6 p0))] [(.int p0)]))
            refine OGoW.st (fun _ k => XS.aloadN X7.here hx rfl (hb hby at_73) rfl rfl k) ?_
            show OGoW p e below s _ _ _ (T7.setTop (mkF m 74 #[.val (.int p0), .val (.int p1), .val (.ref b1), .val (.ref b2), .val (.int (p1 &&& (15 : Int32))), .val (.int (f6 p0))] [(.ref b1), (.int p0)]))
            refine OGoW.st (fun _ k => XS.iload X7.here hx rfl (hb hby at_74) rfl k) ?_
            show OGoW p e below s _ _ _ (T7.setTop (mkF m 76 #[.val (.int p0), .val (.int p1), .val (.ref b1), .val (.ref b2), .val (.int (p1 &&& (15 : Int32))), .val (.int (f6 p0))] [(.int (f6 p0)), (.ref b1), (.int p0)]))
            obtain ⟨cq8, kq8, q8a, q8b, q8c⟩ := isOf hZ e7 Ea1_w2
            obtain ⟨_, _, ⟨T8, L8, k8, n8⟩, -, X8, ⟨Lc8, hQ8, l8, y8, z8⟩, st8⟩ := X7.virtualBack hx (y := (⟨"java/lang/String", "charAt", "(I)C"⟩ : MethodName)) (z := (⟨"java/lang/String", "charAt", "(I)C"⟩ : MethodName)) hown (mvT hZ (hw _ (List.mem_of_getElem? (i := 9) rfl))) (mvT hZ (hw _ (List.mem_of_getElem? (i := 10) rfl))) (notFace_of_selects (args := #[]) (mvT hZ (hw _ (List.mem_of_getElem? (i := 12) rfl)))) (mvT hZ (hw _ (List.mem_of_getElem? (i := 12) rfl))) (mvT hZ (hw _ (List.mem_of_getElem? (i := 11) rfl))) (by decide) (backOf (W := 1) (rm1lo l Z a0 hw [] b1 (f6 p0) c1 k1 w_F w_CS h2 n0 Z2 Ea1_w2 Fc1_w2 Fv1_w2 Va1_w2 S_F_w2 S_CS_w2 hcs hc60 (own_15 hc67) hr_w_F) hZ (hw _ (List.mem_of_getElem? (i := 13) rfl)) (hw _ (List.mem_of_getElem? (i := 1) rfl)) (by decide) (by decide)) q8a q8c (g := (mkF m 76 #[.val (.int p0), .val (.int p1), .val (.ref b1), .val (.ref b2), .val (.int (p1 &&& (15 : Int32))), .val (.int (f6 p0))] [(.int (f6 p0)), (.ref b1), (.int p0)])) rfl (by rw [hml]; rfl) (Steps.refl _) (argsL := [(.int (f6 p0))]) (rest := [(.int p0)]) (lenOf pd_0_0 rfl) rfl (by show 2 * 0 + _ ≤ _; exact Nat.le_of_eq rfl) (hb hby at_76) (fun _ _ => ⟨rfl, e7, (by decide : 4 + 0 ≤ _), (by decide : 136 + 0 ≤ _)⟩)
            dsimp only [Pt.U, Pt.locs, Pt.cells, Pt.slots] at X8 l8 y8 z8 st8 hQ8
            subst l8 y8 z8
            obtain ⟨rfl, N8q, e8⟩ := hQ8
            have N8 := Fr.app N7 N8q
            refine OGoW.st (fun _ k => st8.trans k) ?_
            show OGoW p e below s _ _ _ (T8.setTop (mkF m 79 #[.val (.int p0), .val (.int p1), .val (.ref b1), .val (.ref b2), .val (.int (p1 &&& (15 : Int32))), .val (.int (f6 p0))] [(.int (f1lo (f6 p0))), (.int p0)]))
            by_cases hc79 : p0 = (f1lo (f6 p0))
            · refine OGoW.st (fun _ k => XS.icmpYes X8.here hx rfl (pc0 := 79) (pc' := 92) rfl (hb hby at_79) rfl (teq hc79).1 (by decide) (by decide) k) ?_
              show OGoW p e below s _ _ _ (T8.setTop (mkF m 92 #[.val (.int p0), .val (.int p1), .val (.ref b1), .val (.ref b2), .val (.int (p1 &&& (15 : Int32))), .val (.int (f6 p0))] []))
              refine OGoW.st (fun _ k => XS.iconst X8.here hx rfl (hb hby at_92) k) ?_
              show OGoW p e below s _ _ _ (T8.setTop (mkF m 93 #[.val (.int p0), .val (.int p1), .val (.ref b1), .val (.ref b2), .val (.int (p1 &&& (15 : Int32))), .val (.int (f6 p0))] [(.int (1 : Int32))]))
              refine OGoW.st (fun _ k => XS.goto X8.here hx rfl (pc0 := 93) (pc' := 97) rfl (hb hby at_93) (by decide) (by decide) k) ?_
              show OGoW p e below s _ _ _ (T8.setTop (mkF m 97 #[.val (.int p0), .val (.int p1), .val (.ref b1), .val (.ref b2), .val (.int (p1 &&& (15 : Int32))), .val (.int (f6 p0))] [(.int (1 : Int32))]))
              exact oretNW X8 hx hS2 (by rw [e8]; exact hk2) Bd.notSynchronized (t := .boolean) Bd.returns (by simp) (hb hby at_97) (z' := (1 : Int32)) (by decide) e8 ⟨(congrArg (fun z => some (Value.int z)) (show (1 : Int32) = f0 p0 p1 w_F w_CS from Eq.symm (by unfold f0; exact (if_pos hc23).trans ((if_pos hc39).trans ((if_neg hc53).trans ((if_neg hc60).trans ((if_neg hc67).trans (if_pos hc79)))))))), N8⟩ (by decide) (by decide)
            · refine OGoW.st (fun _ k => XS.icmpNo X8.here hx rfl (hb hby at_79) rfl (feq hc79).1 k) ?_
              show OGoW p e below s _ _ _ (T8.setTop (mkF m 82 #[.val (.int p0), .val (.int p1), .val (.ref b1), .val (.ref b2), .val (.int (p1 &&& (15 : Int32))), .val (.int (f6 p0))] []))
              refine OGoW.st (fun _ k => XS.iloadN X8.here hx rfl (hb hby at_82) rfl k) ?_
              show OGoW p e below s _ _ _ (T8.setTop (mkF m 83 #[.val (.int p0), .val (.int p1), .val (.ref b1), .val (.ref b2), .val (.int (p1 &&& (15 : Int32))), .val (.int (f6 p0))] [(.int p0)]))
              refine OGoW.st (fun _ k => XS.aloadN X8.here hx rfl (hb hby at_83) rfl rfl k) ?_
              show OGoW p e below s _ _ _ (T8.setTop (mkF m 84 #[.val (.int p0), .val (.int p1), .val (.ref b1), .val (.ref b2), .val (.int (p1 &&& (15 : Int32))), .val (.int (f6 p0))] [(.ref b2), (.int p0)]))
              refine OGoW.st (fun _ k => XS.iload X8.here hx rfl (hb hby at_84) rfl k) ?_
              show OGoW p e below s _ _ _ (T8.setTop (mkF m 86 #[.val (.int p0), .val (.int p1), .val (.ref b1), .val (.ref b2), .val (.int (p1 &&& (15 : Int32))), .val (.int (f6 p0))] [(.int (f6 p0)), (.ref b2), (.int p0)]))
              obtain ⟨cq9, kq9, q9a, q9b, q9c⟩ := isOf hZ e8 Ea2
              obtain ⟨_, _, ⟨T9, L9, k9, n9⟩, -, X9, ⟨Lc9, hQ9, l9, y9, z9⟩, st9⟩ := X8.virtualBack hx (y := (⟨"java/lang/String", "charAt", "(I)C"⟩ : MethodName)) (z := (⟨"java/lang/String", "charAt", "(I)C"⟩ : MethodName)) hown (mvT hZ (hw _ (List.mem_of_getElem? (i := 9) rfl))) (mvT hZ (hw _ (List.mem_of_getElem? (i := 10) rfl))) (notFace_of_selects (args := #[]) (mvT hZ (hw _ (List.mem_of_getElem? (i := 12) rfl)))) (mvT hZ (hw _ (List.mem_of_getElem? (i := 12) rfl))) (mvT hZ (hw _ (List.mem_of_getElem? (i := 11) rfl))) (by decide) (backOf (W := 1) (rm1up l Z a0 hw [] b2 (f6 p0) c2 k2 w_F w_CS h2 n0 Z2 Ea2 Fc2 Fv2 Va2 S_F_w2 S_CS_w2 hcs hc60 (own_15 hc67) hr_w_F) hZ (hw _ (List.mem_of_getElem? (i := 13) rfl)) (hw _ (List.mem_of_getElem? (i := 1) rfl)) (by decide) (by decide)) q9a q9c (g := (mkF m 86 #[.val (.int p0), .val (.int p1), .val (.ref b1), .val (.ref b2), .val (.int (p1 &&& (15 : Int32))), .val (.int (f6 p0))] [(.int (f6 p0)), (.ref b2), (.int p0)])) rfl (by rw [hml]; rfl) (Steps.refl _) (argsL := [(.int (f6 p0))]) (rest := [(.int p0)]) (lenOf pd_0_0 rfl) rfl (by show 2 * 0 + _ ≤ _; exact Nat.le_of_eq rfl) (hb hby at_86) (fun _ _ => ⟨rfl, e8, (by decide : 4 + 0 ≤ _), (by decide : 136 + 0 ≤ _)⟩)
              dsimp only [Pt.U, Pt.locs, Pt.cells, Pt.slots] at X9 l9 y9 z9 st9 hQ9
              subst l9 y9 z9
              obtain ⟨rfl, N9q, e9⟩ := hQ9
              have N9 := Fr.app N8 N9q
              refine OGoW.st (fun _ k => st9.trans k) ?_
              show OGoW p e below s _ _ _ (T9.setTop (mkF m 89 #[.val (.int p0), .val (.int p1), .val (.ref b1), .val (.ref b2), .val (.int (p1 &&& (15 : Int32))), .val (.int (f6 p0))] [(.int (f1up (f6 p0))), (.int p0)]))
              by_cases hc89 : p0 = (f1up (f6 p0))
              · refine OGoW.st (fun _ k => XS.icmpNo X9.here hx rfl (hb hby at_89) rfl (teq hc89).2 k) ?_
                show OGoW p e below s _ _ _ (T9.setTop (mkF m 92 #[.val (.int p0), .val (.int p1), .val (.ref b1), .val (.ref b2), .val (.int (p1 &&& (15 : Int32))), .val (.int (f6 p0))] []))
                refine OGoW.st (fun _ k => XS.iconst X9.here hx rfl (hb hby at_92) k) ?_
                show OGoW p e below s _ _ _ (T9.setTop (mkF m 93 #[.val (.int p0), .val (.int p1), .val (.ref b1), .val (.ref b2), .val (.int (p1 &&& (15 : Int32))), .val (.int (f6 p0))] [(.int (1 : Int32))]))
                refine OGoW.st (fun _ k => XS.goto X9.here hx rfl (pc0 := 93) (pc' := 97) rfl (hb hby at_93) (by decide) (by decide) k) ?_
                show OGoW p e below s _ _ _ (T9.setTop (mkF m 97 #[.val (.int p0), .val (.int p1), .val (.ref b1), .val (.ref b2), .val (.int (p1 &&& (15 : Int32))), .val (.int (f6 p0))] [(.int (1 : Int32))]))
                exact oretNW X9 hx hS2 (by rw [e9]; exact hk2) Bd.notSynchronized (t := .boolean) Bd.returns (by simp) (hb hby at_97) (z' := (1 : Int32)) (by decide) e9 ⟨(congrArg (fun z => some (Value.int z)) (show (1 : Int32) = f0 p0 p1 w_F w_CS from Eq.symm (by unfold f0; exact (if_pos hc23).trans ((if_pos hc39).trans ((if_neg hc53).trans ((if_neg hc60).trans ((if_neg hc67).trans ((if_neg hc79).trans (if_pos hc89))))))))), N9⟩ (by decide) (by decide)
              · refine OGoW.st (fun _ k => XS.icmpYes X9.here hx rfl (pc0 := 89) (pc' := 96) rfl (hb hby at_89) rfl (feq hc89).2 (by decide) (by decide) k) ?_
                show OGoW p e below s _ _ _ (T9.setTop (mkF m 96 #[.val (.int p0), .val (.int p1), .val (.ref b1), .val (.ref b2), .val (.int (p1 &&& (15 : Int32))), .val (.int (f6 p0))] []))
                refine OGoW.st (fun _ k => XS.iconst X9.here hx rfl (hb hby at_96) k) ?_
                show OGoW p e below s _ _ _ (T9.setTop (mkF m 97 #[.val (.int p0), .val (.int p1), .val (.ref b1), .val (.ref b2), .val (.int (p1 &&& (15 : Int32))), .val (.int (f6 p0))] [(.int (0 : Int32))]))
                exact oretNW X9 hx hS2 (by rw [e9]; exact hk2) Bd.notSynchronized (t := .boolean) Bd.returns (by simp) (hb hby at_97) (z' := (0 : Int32)) (by decide) e9 ⟨(congrArg (fun z => some (Value.int z)) (show (0 : Int32) = f0 p0 p1 w_F w_CS from Eq.symm (by unfold f0; exact (if_pos hc23).trans ((if_pos hc39).trans ((if_neg hc53).trans ((if_neg hc60).trans ((if_neg hc67).trans ((if_neg hc79).trans (if_neg hc89))))))))), N9⟩ (by decide) (by decide)
    · refine OGoW.st (fun _ k => XS.icmpNo X6.here hx rfl (hb hby at_39) rfl (feq hc39).1 k) ?_
      show OGoW p e below s _ _ _ (T6.setTop (mkF m 42 #[.val (.int p0), .val (.int p1), .val (.ref b1), .val (.ref b2), .val (.int (p1 &&& (15 : Int32))), .unset] []))
      refine OGoW.st (fun _ k => XS.iconst X6.here hx rfl (hb hby at_42) k) ?_
      show OGoW p e below s _ _ _ (T6.setTop (mkF m 43 #[.val (.int p0), .val (.int p1), .val (.ref b1), .val (.ref b2), .val (.int (p1 &&& (15 : Int32))), .unset] [(.int (0 : Int32))]))
      exact oretNW X6 hx hS2 (by rw [e6]; exact hk2) Bd.notSynchronized (t := .boolean) Bd.returns (by simp) (hb hby at_43) (z' := (0 : Int32)) (by decide) e6 ⟨(congrArg (fun z => some (Value.int z)) (show (0 : Int32) = f0 p0 p1 w_F w_CS from Eq.symm (by unfold f0; exact (if_pos hc23).trans (if_neg hc39)))), N6⟩ (by decide) (by decide)
  · refine OGoW.st (fun _ k => XS.icmpNo X4.here hx rfl (hb hby at_23) rfl (feq hc23).1 k) ?_
    show OGoW p e below s _ _ _ (T4.setTop (mkF m 26 #[.val (.int p0), .val (.int p1), .val (.ref b1), .val (.ref b2), .val (.int (p1 &&& (15 : Int32))), .unset] []))
    refine OGoW.st (fun _ k => XS.iconst X4.here hx rfl (hb hby at_26) k) ?_
    show OGoW p e below s _ _ _ (T4.setTop (mkF m 27 #[.val (.int p0), .val (.int p1), .val (.ref b1), .val (.ref b2), .val (.int (p1 &&& (15 : Int32))), .unset] [(.int (0 : Int32))]))
    exact oretNW X4 hx hS2 (by rw [e4]; exact hk2) Bd.notSynchronized (t := .boolean) Bd.returns (by simp) (hb hby at_27) (z' := (0 : Int32)) (by decide) e4 ⟨(congrArg (fun z => some (Value.int z)) (show (0 : Int32) = f0 p0 p1 w_F w_CS from Eq.symm (by unfold f0; exact if_neg hc23))), N4⟩ (by decide) (by decide)
theorem own_16 (P : Int32 → Prop) (h : ∀ n : Fin 16, P (Int32.ofNat n.val)) (y : Int32) (h0 : 0 ≤ y.toInt) (h1 : y.toInt ≤ 15) : P y := by
  have e : y = Int32.ofNat y.toInt.toNat := by
    apply Int32.toInt_inj.mp
    rw [Int32.toInt_ofNat_of_lt (by omega)]; omega
  have q := h ⟨y.toInt.toNat, by omega⟩
  rw [e]; exact q
theorem own_hex (v : Int32) (h0 : 0 ≤ v.toInt) (h1 : v.toInt ≤ 15) : f6 (f1lo v) = v ∧ f6 (f1up v) = v ∧ (10 ≤ v.toInt → (f1lo v).toInt = v.toInt + 87 ∧ (f1up v).toInt = v.toInt + 55) ∧ (v.toInt ≤ 9 → (f1lo v).toInt = v.toInt + 48) :=
  own_16 (fun v => f6 (f1lo v) = v ∧ f6 (f1up v) = v ∧ (10 ≤ v.toInt → (f1lo v).toInt = v.toInt + 87 ∧ (f1up v).toInt = v.toInt + 55) ∧ (v.toInt ≤ 9 → (f1lo v).toInt = v.toInt + 48)) (by decide +kernel) v h0 h1
theorem own_back (c : Int32) : f6 c = (-1 : Int32) ∨ (0 ≤ (f6 c).toInt ∧ (f6 c).toInt ≤ 15 ∧ (c = f1lo (f6 c) ∨ c = f1up (f6 c))) := by
  have k48 : (48 : Int32).toInt = 48 := by decide
  have k57 : (57 : Int32).toInt = 57 := by decide
  have k97 : (97 : Int32).toInt = 97 := by decide
  have k65 : (65 : Int32).toInt = 65 := by decide
  have k70 : (70 : Int32).toInt = 70 := by decide
  have k102 : (102 : Int32).toInt = 102 := by decide
  have k10 : (10 : Int32).toInt = 10 := by decide
  by_cases a : c.toInt < 48
  · left; unfold f6; simp only [Int32.lt_iff_toInt_lt, k48]; rw [if_pos a]
  by_cases b : c.toInt ≤ 57
  · right
    have e : f6 c = c - 48 := by unfold f6; simp only [Int32.lt_iff_toInt_lt, k48, k57]; rw [if_neg a, if_neg (by omega)]
    have e2 : (f6 c).toInt = c.toInt - 48 := by rw [e, Jvm.Kit.i32_sub (by rw [k48]; omega) (by rw [k48]; omega), k48]
    refine ⟨by omega, by omega, Or.inl (Int32.toInt_inj.mp ?_)⟩
    rw [(own_hex (f6 c) (by omega) (by omega)).2.2.2 (by omega), e2]; omega
  by_cases d : c.toInt < 65
  · left; unfold f6; simp only [Int32.lt_iff_toInt_lt, k48, k57, k97, k65]; rw [if_neg a, if_pos (by omega), if_pos (by omega), if_pos d]
  by_cases d2 : c.toInt ≤ 70
  · right
    have e : f6 c = (c - 65) + 10 := by unfold f6; simp only [Int32.lt_iff_toInt_lt, k48, k57, k97, k65, k70]; rw [if_neg a, if_pos (by omega), if_pos (by omega), if_neg d, if_neg (by omega)]
    have e1 : (c - 65).toInt = c.toInt - 65 := by rw [Jvm.Kit.i32_sub (by rw [k65]; omega) (by rw [k65]; omega), k65]
    have e2 : (f6 c).toInt = c.toInt - 55 := by rw [e, Jvm.Kit.i32_add (by rw [e1, k10]; omega) (by rw [e1, k10]; omega), e1, k10]; omega
    refine ⟨by omega, by omega, Or.inr (Int32.toInt_inj.mp ?_)⟩
    rw [((own_hex (f6 c) (by omega) (by omega)).2.2.1 (by omega)).2, e2]; omega
  by_cases g : c.toInt < 97
  · left; unfold f6; simp only [Int32.lt_iff_toInt_lt, k48, k57, k97, k65, k70]; rw [if_neg a, if_pos (by omega), if_pos g, if_neg d, if_pos (by omega)]
  by_cases g2 : c.toInt ≤ 102
  · right
    have e : f6 c = (c - 97) + 10 := by unfold f6; simp only [Int32.lt_iff_toInt_lt, k48, k57, k97, k102]; rw [if_neg a, if_pos (by omega), if_neg g, if_neg (by omega)]
    have e1 : (c - 97).toInt = c.toInt - 97 := by rw [Jvm.Kit.i32_sub (by rw [k97]; omega) (by rw [k97]; omega), k97]
    have e2 : (f6 c).toInt = c.toInt - 87 := by rw [e, Jvm.Kit.i32_add (by rw [e1, k10]; omega) (by rw [e1, k10]; omega), e1, k10]; omega
    refine ⟨by omega, by omega, Or.inl (Int32.toInt_inj.mp ?_)⟩
    rw [((own_hex (f6 c) (by omega) (by omega)).2.2.1 (by omega)).1, e2]; omega
  · left; unfold f6; simp only [Int32.lt_iff_toInt_lt, k48, k57, k97, k102]; rw [if_neg a, if_pos (by omega), if_neg g, if_pos (by omega)]
theorem own_plain (p0 p1 : Int32) (w : Value) (c : Int32) : f0 p0 p1 w c = 1 := by
  have m := Jvm.Kit.i32_mask p1 15 (k := 4) (by decide) (by decide)
  obtain ⟨a, b, -⟩ := own_hex (p1 &&& (15 : Int32)) (by omega) (by omega)
  unfold f0
  rw [if_pos a, if_pos b]
  by_cases h : f6 p0 = (-1 : Int32)
  · rw [if_pos h]
  · rcases own_back p0 with q | ⟨q1, q2, q3⟩
    · exact absurd q h
    · have k0 : (0 : Int32).toInt = 0 := by decide
      have k15 : (15 : Int32).toInt = 15 := by decide
      rw [if_neg h, if_neg (by rw [Int32.lt_iff_toInt_lt, k0]; omega), if_neg (by rw [Int32.lt_iff_toInt_lt, k15]; omega)]
      by_cases z : p0 = f1lo (f6 p0)
      · rw [if_pos z]
      · rw [if_neg z, if_pos (q3.resolve_left z)]
set_option maxRecDepth 65536 in
set_option maxHeartbeats 40000000 in
theorem comes_1 {Post : Tables → Env → Array Value → State → Outcome → State → Prop} (hpost : ∀ tb e args s v u, (limb_1_1.after args s (.returned v) u = true ∧ limb_1_2.after args s (.returned v) u = true ∧ True) → FramedW s (.returned v) u (Jvm.fieldLocs frame_1_writes args s ++ Jvm.arrayLocs frame_1_arrays args s ++ Jvm.staticLocs frame_1_statics s) 8 2112 → Post tb e args s (.returned v) u) :
    ArmFor flags0 classFile x code maxLocals ret World_1 tables_1 room_1 Calls_1 rest_1 Pre_1 Post := by
  intro l hfl _ _ p e ha hc hk s m args below hf hA hF happ hP
  obtain ⟨hcalls, hrest, hpre⟩ := hP
  obtain ⟨-, -, -, hnamed, -, -, -, hat⟩ := (Spec.applies_iff hf).mp happ
  obtain ⟨hg, hn⟩ := and_e (Cond.before_iff.mp (show (Jvm.Cond.and given_1 narrow_1).before args s = true from hpre))
  obtain ⟨gv1, gv2⟩ := and_e hg
  obtain ⟨gv3, gv4⟩ := and_e gv2
  obtain ⟨w0, w1, rfl⟩ : ∃ w0 w1 : Value, args = #[w0, w1] := by
    have hs : args.size = 2 := by simpa [Cond.value, given_1] using gv1
    obtain ⟨L⟩ := args
    match L, hs with
    | [w0, w1], _ => exact ⟨w0, w1, rfl⟩
  have hw := fun d (hd : d ∈ tables_1) => atoms_spec (ws := Jvm.Cond.code x code maxLocals ret :: tables_1) hat d (List.mem_cons_of_mem _ hd)
  have hfit : Fit s := fun {y c} hc i hi => by
    obtain ⟨ha, rfl⟩ := Array.getElem?_eq_some_iff.mp hc
    have q := List.all_eq_true.mp ((Array.all_eq_true_iff_forall_mem.mp hF) _ (Array.getElem_mem ha)) i (List.mem_range.mpr hi)
    simpa [Array.getElem?_eq_getElem hi] using q
  obtain ⟨i0, ei0⟩ := is_v gv3
  obtain rfl : w0 = (.int i0) := Option.some.inj ei0
  obtain ⟨i1, ei1⟩ := is_v gv4
  obtain rfl : w1 = (.int i1) := Option.some.inj ei1
  obtain ⟨hsets, hown0⟩ := atoms_of _ (rest_1_c_eq ▸ (show rest_1_c.before _ s = true from hrest))
  obtain ⟨w_CS, ev_CS⟩ := is_v (Cond.before_iff.mp (hsets _ (List.mem_of_getElem? (i := 1) rfl)))
  have S_CS : Sta s s.heap "java/lang/String" "COMPACT_STRINGS" "Z" (.int w_CS) := Sta.start ev_CS (Or.inl (hsets _ (List.mem_of_getElem? (i := 0) rfl)))
  have hcw := hsets _ (List.mem_of_getElem? (i := 2) rfl)
  have hcs : ¬ (w_CS = (0 : Int32)) := by
    have q := not_v (Cond.before_iff.mp hcw)
    simpa [Cond.value, ev_CS, Term.int_eval] using q
  obtain ⟨w_F, ev_F, hr_F⟩ := isR_v (Cond.before_iff.mp (hsets _ (List.mem_of_getElem? (i := 8) rfl)))
  have S_F : Sta s s.heap "jdk/internal/util/Preconditions" "SIOOBE_FORMATTER" "Ljava/util/function/BiFunction;" w_F := Sta.start ev_F (Or.inl (hsets _ (List.mem_of_getElem? (i := 7) rfl)))
  have hpl := own_plain i0 i1 w_F w_CS
  obtain ⟨n, o, h1, h2, h3, _, L, rfl, ⟨rfl, N⟩, hq⟩ := rm0 l s _ hw tables_1 i0 i1 w_F w_CS s.heap s.heap.size (Nat.le_refl _) S_F S_CS hcs rfl hcw (hcalls.1 _ (List.mem_of_getElem? (i := 0) rfl)) (hcalls.1 _ (List.mem_of_getElem? (i := 1) rfl)) hr_F p e ha hc hk s m _ below hf ((Spec.applies_iff_loose hf).mp happ).1 ⟨rfl, State.Warmed39.refl s, rfl, IB.start⟩ trivial
  refine ⟨n, _, h1, h2, h3, hpost _ _ _ _ _ _ ⟨Cond.after_iff.mpr rfl, Cond.after_iff.mpr (eq_i res_at (Term.int_eval (1)) (congrArg Value.int hpl)), trivial⟩ ⟨hq.1, hq.2.1, hq.2.2.1, (hq.2.2.2.sift fun y hy => Or.inr (N y hy)).mono (by decide) (by decide)⟩⟩
theorem main_1_1 : Claimed_1_1 := comes_1 fun _ _ _ _ _ _ h hF => ⟨h.1, hF⟩
theorem main_1_2 : Claimed_1_2 := comes_1 fun _ _ _ _ _ _ h hF => ⟨h.2.1, hF⟩
end Jvm.Pilot.@@N@@
namespace Jvm.Pilot.@@N@@
open Jvm Jvm.ClassFile Sem Op Lib Jvm.Free Jvm.Stand Jvm.Pilot.@@N@@.Jvm.D
/-! MADE BY PROGRAM (witnessworld.py) out of the Statement's table words and the real class files: 17 classes; the members and pool entries that the words name. The judged class is class 1, her method 1. -/
namespace start1
open Jvm.ClassFile
def u (s : String) : CpInfo := .utf8 (stringToUtf16 s)
/-- a pool by its gaps: so many unusable entries, then the entry; so many at the end -/
def gap : Nat → List CpInfo → List CpInfo
  | 0, r => r
  | n + 1, r => .unusable :: gap n r
def poolList (es : List (Nat × CpInfo)) (last : Nat) : List CpInfo := es.foldr (fun e r => gap e.1 (e.2 :: r)) (gap last [])
def pool (es : List (Nat × CpInfo)) (last : Nat) : Array CpInfo := ⟨poolList es last⟩
def fileOf (pool : Array CpInfo) (this : Nat) (attrs : Array Attribute := #[]) (ms : Array MethodInfo := #[]) (fl : Nat := 33) (sup : Nat := 0) (ifs : Array Nat := #[]) (fds : Array FieldInfo := #[]) : ClassFile where
  minorVersion := 0
  majorVersion := 65
  constantPool := pool
  accessFlags := fl
  thisClass := this
  superClass := sup
  interfaces := ifs
  fields := fds
  methods := ms
  attributes := attrs
def plain (name : String) (sup : Option ClassId) : Class where
  name := name
  kind := .ordinary
  loader := none
  accessFlags := 33
  super := sup
  interfaces := #[]
  cf := none
  fields := #[]
  methods := #[]
  instanceTypes := #[]
  staticTypes := #[]
  resolved := #[]
  callSites := []
  init := .initialized
  statics := none
  mirror := none

def pool0 : Array CpInfo := pool [(5, u "<init>"), (0, u "()V"), (1, .class_ 10), (1, u "java/lang/Object")] 113

def k0m0 : Method := { name := "<init>", desc := "()V", sig := { parameters := [], returnType := none }, accessFlags := 1, code := none }
/-- java/lang/Object -/
def k0 : Class := { plain "java/lang/Object" none with
  accessFlags := 33
  interfaces := #[]
  cf := some (fileOf pool0 8 #[] #[{ accessFlags := 1, nameIndex := 5, descriptorIndex := 6, attributes := #[] }] 33 0 #[] #[])
  fields := #[]
  methods := #[k0m0]
  instanceTypes := #[]
  staticTypes := #[]
  resolved := Array.replicate 124 none
  statics := none }

def pool1 : Array CpInfo := pool [(2, .class_ 4), (1, u "java/lang/Object"), (0, u "<init>"), (0, u "()V"), (0, .string 8), (0, u "0123456789abcdef"), (0, .string 10), (0, u "0123456789ABCDEF"), (0, .methodref 12 13), (0, .class_ 14), (0, .nameAndType 15 16), (0, u "java/lang/String"), (0, u "charAt"), (0, u "(I)C"), (0, .methodref 18 19), (0, .class_ 20), (0, .nameAndType 21 22), (0, u "com/example/evbind/evbind/Ascii"), (0, u "hexValue"), (0, u "(I)I"), (0, .class_ 24), (0, u "com/example/evbind/evbind/AsciiHexValuePinLaw"), (2, u "law"), (0, u "(II)Z")] 3

def k1m0 : Method := { name := "<init>", desc := "()V", sig := { parameters := [], returnType := none }, accessFlags := 2, code := none }
def k1c1 : Code := { maxStack := 3, maxLocals := 6, code := code, exceptionTable := #[], attributes := #[] }
def k1m1 : Method := { name := "law", desc := "(II)Z", sig := { parameters := [.int, .int], returnType := some .boolean }, accessFlags := 9, code := some k1c1 }
/-- com/example/evbind/evbind/AsciiHexValuePinLaw -/
def k1 : Class := { plain "com/example/evbind/evbind/AsciiHexValuePinLaw" (some 0) with
  accessFlags := 49
  interfaces := #[]
  cf := some (fileOf pool1 23 #[] #[{ accessFlags := 2, nameIndex := 5, descriptorIndex := 6, attributes := #[] }, { accessFlags := 9, nameIndex := 27, descriptorIndex := 28, attributes := #[] }] 49 2 #[] #[])
  fields := #[]
  methods := #[k1m0, k1m1]
  instanceTypes := #[]
  staticTypes := #[]
  resolved := Array.replicate 32 none
  statics := none }

def pool2 : Array CpInfo := pool [(1, .class_ 2), (0, u "java/io/Serializable"), (0, .class_ 4), (0, u "java/lang/Object")] 2

/-- java/io/Serializable -/
def k2 : Class := { plain "java/io/Serializable" (some 0) with
  accessFlags := 1537
  interfaces := #[]
  cf := some (fileOf pool2 1 #[] #[] 1537 3 #[] #[])
  fields := #[]
  methods := #[]
  instanceTypes := #[]
  staticTypes := #[]
  resolved := Array.replicate 7 none
  statics := none }

def pool3 : Array CpInfo := pool [(1, .class_ 2), (0, u "java/lang/Comparable"), (0, .class_ 4), (0, u "java/lang/Object")] 7

/-- java/lang/Comparable -/
def k3 : Class := { plain "java/lang/Comparable" (some 0) with
  accessFlags := 1537
  interfaces := #[]
  cf := some (fileOf pool3 1 #[] #[] 1537 3 #[] #[])
  fields := #[]
  methods := #[]
  instanceTypes := #[]
  staticTypes := #[]
  resolved := Array.replicate 12 none
  statics := none }

def pool4 : Array CpInfo := pool [(2, .class_ 4), (1, u "java/lang/CharSequence"), (42, .class_ 48), (0, u "java/lang/CharSequence$1CodePointIterator"), (10, .class_ 60), (0, u "java/lang/CharSequence$1CharIterator"), (5, .class_ 67), (0, u "java/lang/Object")] 63

/-- java/lang/CharSequence -/
def k4 : Class := { plain "java/lang/CharSequence" (some 0) with
  accessFlags := 1537
  interfaces := #[]
  cf := some (fileOf pool4 2 #[.nestMembers #[47, 59]] #[] 1537 66 #[] #[])
  fields := #[]
  methods := #[]
  instanceTypes := #[]
  staticTypes := #[]
  resolved := Array.replicate 131 none
  statics := none }

def pool5 : Array CpInfo := pool [(1, .class_ 2), (0, u "java/lang/constant/Constable"), (0, .class_ 4), (0, u "java/lang/Object")] 6

/-- java/lang/constant/Constable -/
def k5 : Class := { plain "java/lang/constant/Constable" (some 0) with
  accessFlags := 1537
  interfaces := #[]
  cf := some (fileOf pool5 1 #[] #[] 1537 3 #[] #[])
  fields := #[]
  methods := #[]
  instanceTypes := #[]
  staticTypes := #[]
  resolved := Array.replicate 11 none
  statics := none }

def pool6 : Array CpInfo := pool [(1, .class_ 2), (0, u "java/lang/constant/ConstantDesc"), (0, .class_ 4), (0, u "java/lang/Object")] 32

/-- java/lang/constant/ConstantDesc -/
def k6 : Class := { plain "java/lang/constant/ConstantDesc" (some 0) with
  accessFlags := 1537
  interfaces := #[]
  cf := some (fileOf pool6 1 #[] #[] 1537 3 #[] #[])
  fields := #[]
  methods := #[]
  instanceTypes := #[]
  staticTypes := #[]
  resolved := Array.replicate 37 none
  statics := none }

def pool7 : Array CpInfo := pool [(2, .class_ 4), (1, u "java/lang/Object"), (0, u "<init>"), (0, u "()V"), (2, .fieldref 10 11), (0, .class_ 12), (0, .nameAndType 13 14), (0, u "java/lang/String"), (0, u "value"), (0, u "[B"), (0, .fieldref 10 16), (0, .nameAndType 17 18), (0, u "coder"), (0, u "B"), (2, u "hash"), (0, u "I"), (2, u "hashIsZero"), (0, u "Z"), (11, .fieldref 10 39), (0, .nameAndType 40 26), (0, u "COMPACT_STRINGS"), (66, .class_ 109), (1, u "java/lang/StringLatin1"), (32, u "()Z"), (220, u "([BI)C"), (27, u "(II)V"), (35, u "(I)C"), (64, .methodref 10 493), (0, .nameAndType 494 142), (0, u "isLatin1"), (0, .methodref 107 496), (0, .nameAndType 497 363), (0, u "charAt"), (3, u "checkIndex"), (73, .class_ 576), (0, u "java/lang/CharSequence"), (22, u "CASE_INSENSITIVE_ORDER"), (0, u "Ljava/util/Comparator;"), (452, .fieldref 1054 1055), (0, .class_ 1056), (0, .nameAndType 1057 1058), (0, u "jdk/internal/util/Preconditions"), (0, u "SIOOBE_FORMATTER"), (0, u "Ljava/util/function/BiFunction;"), (0, .methodref 1054 1060), (0, .nameAndType 501 1061), (0, u "(IILjava/util/function/BiFunction;)I"), (39, u "serialPersistentFields"), (0, u "[Ljava/io/ObjectStreamField;"), (0, .class_ 1104), (0, u "java/lang/String$CaseInsensitiveComparator"), (1, .class_ 1107), (0, u "java/io/Serializable"), (0, .class_ 1109), (0, u "java/lang/Comparable"), (0, .class_ 1111), (0, u "java/lang/constant/Constable"), (0, .class_ 1113), (0, u "java/lang/constant/ConstantDesc"), (2, u "serialVersionUID"), (0, u "J"), (3, u "REPL"), (0, u "C"), (2, u "LATIN1"), (1, u "UTF16")] 323

def k7m0 : Method := { name := "<init>", desc := "()V", sig := { parameters := [], returnType := none }, accessFlags := 1, code := none }
def k7c1 : Code := { maxStack := 2, maxLocals := 2, code := jdk_42_method_56_code, exceptionTable := #[], attributes := #[] }
def k7m1 : Method := { name := "charAt", desc := "(I)C", sig := { parameters := [.int], returnType := some .char }, accessFlags := 1, code := some k7c1 }
def k7c2 : Code := { maxStack := 1, maxLocals := 1, code := jdk_42_method_154_code, exceptionTable := #[], attributes := #[] }
def k7m2 : Method := { name := "isLatin1", desc := "()Z", sig := { parameters := [], returnType := some .boolean }, accessFlags := 0, code := some k7c2 }
def k7c3 : Code := { maxStack := 3, maxLocals := 2, code := jdk_42_method_155_code, exceptionTable := #[], attributes := #[] }
def k7m3 : Method := { name := "checkIndex", desc := "(II)V", sig := { parameters := [.int, .int], returnType := none }, accessFlags := 8, code := some k7c3 }
/-- java/lang/String -/
def k7 : Class := { plain "java/lang/String" (some 0) with
  accessFlags := 49
  interfaces := #[2, 3, 4, 5, 6]
  cf := some (fileOf pool7 10 #[.nestMembers #[1103]] #[{ accessFlags := 1, nameIndex := 5, descriptorIndex := 6, attributes := #[] }, { accessFlags := 1, nameIndex := 497, descriptorIndex := 427, attributes := #[] }, { accessFlags := 0, nameIndex := 494, descriptorIndex := 142, attributes := #[] }, { accessFlags := 8, nameIndex := 501, descriptorIndex := 391, attributes := #[] }] 49 2 #[1106, 1108, 575, 1110, 1112] #[{ accessFlags := 18, nameIndex := 13, descriptorIndex := 14, attributes := #[] }, { accessFlags := 18, nameIndex := 17, descriptorIndex := 18, attributes := #[] }, { accessFlags := 2, nameIndex := 21, descriptorIndex := 22, attributes := #[] }, { accessFlags := 2, nameIndex := 25, descriptorIndex := 26, attributes := #[] }, { accessFlags := 26, nameIndex := 1116, descriptorIndex := 1117, attributes := #[] }, { accessFlags := 24, nameIndex := 40, descriptorIndex := 26, attributes := #[] }, { accessFlags := 26, nameIndex := 1101, descriptorIndex := 1102, attributes := #[] }, { accessFlags := 26, nameIndex := 1121, descriptorIndex := 1122, attributes := #[] }, { accessFlags := 25, nameIndex := 599, descriptorIndex := 600, attributes := #[] }, { accessFlags := 24, nameIndex := 1125, descriptorIndex := 18, attributes := #[] }, { accessFlags := 24, nameIndex := 1127, descriptorIndex := 18, attributes := #[] }])
  fields := #[{ name := "value", type := (.array .byte), accessFlags := 18, slot := 0, constantValue := 0 }, { name := "coder", type := .byte, accessFlags := 18, slot := 1, constantValue := 0 }, { name := "hash", type := .int, accessFlags := 2, slot := 2, constantValue := 0 }, { name := "hashIsZero", type := .boolean, accessFlags := 2, slot := 3, constantValue := 0 }, { name := "serialVersionUID", type := .long, accessFlags := 26, slot := 0, constantValue := 0 }, { name := "COMPACT_STRINGS", type := .boolean, accessFlags := 24, slot := 1, constantValue := 0 }, { name := "serialPersistentFields", type := (.array (.object "java/io/ObjectStreamField")), accessFlags := 26, slot := 2, constantValue := 0 }, { name := "REPL", type := .char, accessFlags := 26, slot := 3, constantValue := 0 }, { name := "CASE_INSENSITIVE_ORDER", type := (.object "java/util/Comparator"), accessFlags := 25, slot := 4, constantValue := 0 }, { name := "LATIN1", type := .byte, accessFlags := 24, slot := 5, constantValue := 0 }, { name := "UTF16", type := .byte, accessFlags := 24, slot := 6, constantValue := 0 }]
  methods := #[k7m0, k7m1, k7m2, k7m3]
  instanceTypes := #[(.array .byte), .byte, .int, .boolean]
  staticTypes := #[.long, .boolean, (.array (.object "java/io/ObjectStreamField")), .char, (.object "java/util/Comparator"), .byte, .byte]
  resolved := Array.replicate 1451 none
  statics := some 0 }

def pool8 : Array CpInfo := pool [(1, .class_ 2), (0, u "java/lang/String"), (1, .class_ 6), (1, u "java/lang/Object"), (0, u "<init>"), (0, u "()V"), (0, .methodref 1 10), (0, .nameAndType 11 12), (0, u "checkIndex"), (0, u "(II)V"), (1, .class_ 16), (1, u "java/lang/StringLatin1"), (36, u "([BI)C"), (67, u "$assertionsDisabled"), (0, u "Z"), (98, .class_ 223), (1, u "java/lang/StringLatin1$LinesSpliterator"), (28, u "charAt"), (137, .class_ 391), (0, u "java/lang/StringLatin1$CharsSpliterator")] 3

def k8m0 : Method := { name := "<init>", desc := "()V", sig := { parameters := [], returnType := none }, accessFlags := 0, code := none }
def k8c1 : Code := { maxStack := 2, maxLocals := 2, code := jdk_43_method_2_code, exceptionTable := #[], attributes := #[] }
def k8m1 : Method := { name := "charAt", desc := "([BI)C", sig := { parameters := [(.array .byte), .int], returnType := some .char }, accessFlags := 9, code := some k8c1 }
/-- java/lang/StringLatin1 -/
def k8 : Class := { plain "java/lang/StringLatin1" (some 0) with
  accessFlags := 48
  interfaces := #[]
  cf := some (fileOf pool8 14 #[.nestMembers #[390, 221]] #[{ accessFlags := 0, nameIndex := 7, descriptorIndex := 8, attributes := #[] }, { accessFlags := 9, nameIndex := 252, descriptorIndex := 53, attributes := #[] }] 48 4 #[] #[{ accessFlags := 4120, nameIndex := 121, descriptorIndex := 122, attributes := #[] }])
  fields := #[{ name := "$assertionsDisabled", type := .boolean, accessFlags := 4120, slot := 0, constantValue := 0 }]
  methods := #[k8m0, k8m1]
  instanceTypes := #[]
  staticTypes := #[.boolean]
  resolved := Array.replicate 395 none
  statics := none }

def pool9 : Array CpInfo := pool [(2, .class_ 4), (1, u "java/lang/Object"), (0, u "<init>"), (0, u "()V"), (17, .class_ 26), (1, u "jdk/internal/util/Preconditions"), (6, u "checkIndex"), (21, .class_ 56), (0, u "jdk/internal/util/Preconditions$4"), (57, .class_ 115), (0, u "jdk/internal/util/Preconditions$1"), (7, u "SIOOBE_FORMATTER"), (0, u "Ljava/util/function/BiFunction;"), (0, .class_ 126), (0, u "jdk/internal/util/Preconditions$2"), (3, u "AIOOBE_FORMATTER"), (0, .class_ 132), (0, u "jdk/internal/util/Preconditions$3"), (3, u "IOOBE_FORMATTER"), (41, u "(IILjava/util/function/BiFunction;)I")] 15

def k9m0 : Method := { name := "<init>", desc := "()V", sig := { parameters := [], returnType := none }, accessFlags := 1, code := none }
def k9c1 : Code := { maxStack := 3, maxLocals := 3, code := jdk_41_method_11_code, exceptionTable := #[], attributes := #[] }
def k9m1 : Method := { name := "checkIndex", desc := "(IILjava/util/function/BiFunction;)I", sig := { parameters := [.int, .int, (.object "java/util/function/BiFunction")], returnType := some .int }, accessFlags := 9, code := some k9c1 }
/-- jdk/internal/util/Preconditions -/
def k9 : Class := { plain "jdk/internal/util/Preconditions" (some 0) with
  accessFlags := 33
  interfaces := #[]
  cf := some (fileOf pool9 24 #[.nestMembers #[55, 131, 125, 114]] #[{ accessFlags := 1, nameIndex := 5, descriptorIndex := 6, attributes := #[] }, { accessFlags := 9, nameIndex := 33, descriptorIndex := 178, attributes := #[] }] 33 2 #[] #[{ accessFlags := 25, nameIndex := 123, descriptorIndex := 124, attributes := #[] }, { accessFlags := 25, nameIndex := 130, descriptorIndex := 124, attributes := #[] }, { accessFlags := 25, nameIndex := 136, descriptorIndex := 124, attributes := #[] }])
  fields := #[{ name := "SIOOBE_FORMATTER", type := (.object "java/util/function/BiFunction"), accessFlags := 25, slot := 0, constantValue := 0 }, { name := "AIOOBE_FORMATTER", type := (.object "java/util/function/BiFunction"), accessFlags := 25, slot := 1, constantValue := 0 }, { name := "IOOBE_FORMATTER", type := (.object "java/util/function/BiFunction"), accessFlags := 25, slot := 2, constantValue := 0 }]
  methods := #[k9m0, k9m1]
  instanceTypes := #[]
  staticTypes := #[(.object "java/util/function/BiFunction"), (.object "java/util/function/BiFunction"), (.object "java/util/function/BiFunction")]
  resolved := Array.replicate 194 none
  statics := some 1 }

def pool10 : Array CpInfo := pool [(2, .class_ 4), (1, u "java/lang/Object"), (0, u "<init>"), (0, u "()V"), (7, .class_ 16), (1, u "com/example/evbind/evbind/Ascii"), (24, u "hexValue"), (0, u "(I)I")] 5

def k10m0 : Method := { name := "<init>", desc := "()V", sig := { parameters := [], returnType := none }, accessFlags := 2, code := none }
def k10c1 : Code := { maxStack := 2, maxLocals := 1, code := prog_4_method_2_code, exceptionTable := #[], attributes := #[] }
def k10m1 : Method := { name := "hexValue", desc := "(I)I", sig := { parameters := [.int], returnType := some .int }, accessFlags := 8, code := some k10c1 }
/-- com/example/evbind/evbind/Ascii -/
def k10 : Class := { plain "com/example/evbind/evbind/Ascii" (some 0) with
  accessFlags := 48
  interfaces := #[]
  cf := some (fileOf pool10 14 #[] #[{ accessFlags := 2, nameIndex := 5, descriptorIndex := 6, attributes := #[] }, { accessFlags := 8, nameIndex := 41, descriptorIndex := 42, attributes := #[] }] 48 2 #[] #[])
  fields := #[]
  methods := #[k10m0, k10m1]
  instanceTypes := #[]
  staticTypes := #[]
  resolved := Array.replicate 48 none
  statics := none }

def pool11 : Array CpInfo := pool [(9, u "<init>"), (6, .class_ 18), (1, u "java/lang/Object"), (0, u "()V"), (1, .class_ 23), (1, u "jdk/internal/util/ArraysSupport"), (0, u "LOG2_ARRAY_LONG_INDEX_SCALE"), (0, u "I"), (2, u "U"), (0, u "Ljdk/internal/misc/Unsafe;"), (8, u "BIG_ENDIAN"), (0, u "Z"), (8, u "LOG2_BYTE_BIT_SIZE"), (4, u "LOG2_ARRAY_INT_INDEX_SCALE"), (54, u "JLA"), (0, u "Ljdk/internal/access/JavaLangAccess;"), (11, u "LOG2_ARRAY_BOOLEAN_INDEX_SCALE"), (9, u "LOG2_ARRAY_BYTE_INDEX_SCALE"), (5, u "LOG2_ARRAY_CHAR_INDEX_SCALE"), (5, u "LOG2_ARRAY_SHORT_INDEX_SCALE"), (18, u "LOG2_ARRAY_FLOAT_INDEX_SCALE"), (24, u "LOG2_ARRAY_DOUBLE_INDEX_SCALE"), (89, u "T_BOOLEAN"), (2, u "T_CHAR"), (1, u "T_FLOAT"), (1, u "T_DOUBLE"), (1, u "T_BYTE"), (1, u "T_SHORT"), (1, u "T_INT"), (1, u "T_LONG"), (1, u "SOFT_MAX_ARRAY_LENGTH")] 83

def k11m0 : Method := { name := "<init>", desc := "()V", sig := { parameters := [], returnType := none }, accessFlags := 2, code := none }
/-- jdk/internal/util/ArraysSupport -/
def k11 : Class := { plain "jdk/internal/util/ArraysSupport" (some 0) with
  accessFlags := 33
  interfaces := #[]
  cf := some (fileOf pool11 21 #[] #[{ accessFlags := 2, nameIndex := 9, descriptorIndex := 19, attributes := #[] }] 33 16 #[] #[{ accessFlags := 24, nameIndex := 28, descriptorIndex := 29, attributes := #[] }, { accessFlags := 26, nameIndex := 38, descriptorIndex := 39, attributes := #[] }, { accessFlags := 25, nameIndex := 121, descriptorIndex := 25, attributes := #[] }, { accessFlags := 25, nameIndex := 131, descriptorIndex := 25, attributes := #[] }, { accessFlags := 25, nameIndex := 137, descriptorIndex := 25, attributes := #[] }, { accessFlags := 25, nameIndex := 143, descriptorIndex := 25, attributes := #[] }, { accessFlags := 25, nameIndex := 53, descriptorIndex := 25, attributes := #[] }, { accessFlags := 25, nameIndex := 24, descriptorIndex := 25, attributes := #[] }, { accessFlags := 25, nameIndex := 162, descriptorIndex := 25, attributes := #[] }, { accessFlags := 25, nameIndex := 187, descriptorIndex := 25, attributes := #[] }, { accessFlags := 26, nameIndex := 48, descriptorIndex := 25, attributes := #[] }, { accessFlags := 25, nameIndex := 277, descriptorIndex := 25, attributes := #[] }, { accessFlags := 25, nameIndex := 280, descriptorIndex := 25, attributes := #[] }, { accessFlags := 25, nameIndex := 282, descriptorIndex := 25, attributes := #[] }, { accessFlags := 25, nameIndex := 284, descriptorIndex := 25, attributes := #[] }, { accessFlags := 25, nameIndex := 286, descriptorIndex := 25, attributes := #[] }, { accessFlags := 25, nameIndex := 288, descriptorIndex := 25, attributes := #[] }, { accessFlags := 25, nameIndex := 290, descriptorIndex := 25, attributes := #[] }, { accessFlags := 25, nameIndex := 292, descriptorIndex := 25, attributes := #[] }, { accessFlags := 26, nameIndex := 108, descriptorIndex := 109, attributes := #[] }, { accessFlags := 25, nameIndex := 294, descriptorIndex := 25, attributes := #[] }])
  fields := #[{ name := "U", type := (.object "jdk/internal/misc/Unsafe"), accessFlags := 24, slot := 0, constantValue := 0 }, { name := "BIG_ENDIAN", type := .boolean, accessFlags := 26, slot := 1, constantValue := 0 }, { name := "LOG2_ARRAY_BOOLEAN_INDEX_SCALE", type := .int, accessFlags := 25, slot := 2, constantValue := 0 }, { name := "LOG2_ARRAY_BYTE_INDEX_SCALE", type := .int, accessFlags := 25, slot := 3, constantValue := 0 }, { name := "LOG2_ARRAY_CHAR_INDEX_SCALE", type := .int, accessFlags := 25, slot := 4, constantValue := 0 }, { name := "LOG2_ARRAY_SHORT_INDEX_SCALE", type := .int, accessFlags := 25, slot := 5, constantValue := 0 }, { name := "LOG2_ARRAY_INT_INDEX_SCALE", type := .int, accessFlags := 25, slot := 6, constantValue := 0 }, { name := "LOG2_ARRAY_LONG_INDEX_SCALE", type := .int, accessFlags := 25, slot := 7, constantValue := 0 }, { name := "LOG2_ARRAY_FLOAT_INDEX_SCALE", type := .int, accessFlags := 25, slot := 8, constantValue := 0 }, { name := "LOG2_ARRAY_DOUBLE_INDEX_SCALE", type := .int, accessFlags := 25, slot := 9, constantValue := 0 }, { name := "LOG2_BYTE_BIT_SIZE", type := .int, accessFlags := 26, slot := 10, constantValue := 0 }, { name := "T_BOOLEAN", type := .int, accessFlags := 25, slot := 11, constantValue := 0 }, { name := "T_CHAR", type := .int, accessFlags := 25, slot := 12, constantValue := 0 }, { name := "T_FLOAT", type := .int, accessFlags := 25, slot := 13, constantValue := 0 }, { name := "T_DOUBLE", type := .int, accessFlags := 25, slot := 14, constantValue := 0 }, { name := "T_BYTE", type := .int, accessFlags := 25, slot := 15, constantValue := 0 }, { name := "T_SHORT", type := .int, accessFlags := 25, slot := 16, constantValue := 0 }, { name := "T_INT", type := .int, accessFlags := 25, slot := 17, constantValue := 0 }, { name := "T_LONG", type := .int, accessFlags := 25, slot := 18, constantValue := 0 }, { name := "JLA", type := (.object "jdk/internal/access/JavaLangAccess"), accessFlags := 26, slot := 19, constantValue := 0 }, { name := "SOFT_MAX_ARRAY_LENGTH", type := .int, accessFlags := 25, slot := 20, constantValue := 0 }]
  methods := #[k11m0]
  instanceTypes := #[]
  staticTypes := #[(.object "jdk/internal/misc/Unsafe"), .boolean, .int, .int, .int, .int, .int, .int, .int, .int, .int, .int, .int, .int, .int, .int, .int, .int, .int, (.object "jdk/internal/access/JavaLangAccess"), .int]
  resolved := Array.replicate 378 none
  statics := none }

def pool12 : Array CpInfo := pool [(1, u "java/lang/Cloneable"), (0, .class_ 1), (0, u "java/lang/Object"), (0, .class_ 3)] 3

/-- java/lang/Cloneable -/
def k12 : Class := { plain "java/lang/Cloneable" (some 0) with
  accessFlags := 1537
  interfaces := #[]
  cf := some (fileOf pool12 2 #[] #[] 1537 4 #[] #[])
  fields := #[]
  methods := #[]
  instanceTypes := #[]
  staticTypes := #[]
  resolved := Array.replicate 8 none
  statics := none }

/-- the primitive byte -/
def k13 : Class := { plain "byte" none with kind := .primitive 'B', accessFlags := 0x411 }
/-- [B -/
def k14 : Class := { plain "[B" (some 0) with kind := .array 13 .byte, interfaces := #[12, 2], accessFlags := 1041 }

/-- the primitive int -/
def k15 : Class := { plain "int" none with kind := .primitive 'I', accessFlags := 0x411 }
/-- [I -/
def k16 : Class := { plain "[I" (some 0) with kind := .array 15 .int, interfaces := #[12, 2], accessFlags := 1041 }

def heap : Heap := #[{ cls := 7, slots := #[.long 0, .int 1, .null, .int 0, .null, .int 0, .int 0], vm := .statics 7 },
  { cls := 9, slots := #[.null, .null, .null], vm := .statics 9 }]
def classes : Array Class := #[k0, k1, k2, k3, k4, k5, k6, k7, k8, k9, k10, k11, k12, k13, k14, k15, k16]
def interned : List (Array UInt16 × Addr) := []
def slotsUsed : Nat := 10
def theMethod : MethodId := ⟨1, 1⟩
def args0 : Array Value := #[.int 7, .int 7]
def aboutOver (below : List Frame) : State where
  vm := { classes := classes, interned := interned.toArray }
  heap := heap
  slotsUsed := slotsUsed
  threads := #[{ frames := .invoking theMethod args0 :: below }]
def below0 : List Frame := [.native { method := ⟨0, 0⟩, args := #[] }]
def about1 : State := aboutOver below0
def p0 : Program := .bare "" "" ""
def e0 : Env := launch0.env 0 0 0
theorem w_frames : about1.frames = Frame.invoking theMethod args0 :: below0 := rfl
set_option maxRecDepth 65536 in
theorem w_args : argsFit about1.vm theMethod args0 = true := by decide +kernel
set_option maxRecDepth 65536 in
theorem w_heap : heapFits about1 = true := by decide +kernel
set_option maxRecDepth 65536 in
theorem w_runnable : about1.curStatus? = some .runnable := by decide +kernel
set_option maxRecDepth 65536 in
theorem w_alone : about1.alone = true := by decide +kernel
set_option maxRecDepth 65536 in
theorem w_named : about1.methodNamed? x = some theMethod := by decide +kernel
set_option maxRecDepth 65536 in
theorem w_hears : about1.hears theMethod below0 = true := by decide +kernel
set_option maxRecDepth 65536 in
theorem w_ripe : about1.ripe theMethod args0 below0 = true := by decide +kernel
theorem w_running : about1.status = .running := rfl
set_option maxRecDepth 65536 in
theorem w_room : about1.hasRoom e0.platform room_1 = true :=
  launch0.hasRoom_least _ room_1 (by decide +kernel) (by decide +kernel) (by decide +kernel) (by decide +kernel) (by decide +kernel) (by decide +kernel)
theorem allAtoms_all (ts : List Jvm.Cond) (a : Array Jvm.Value) (st : Jvm.State) : (allAtoms ts).before a st = ts.all (fun c => c.before a st) := by
  induction ts with
  | nil => rfl
  | cons c t ih =>
    show (Jvm.Cond.and c (allAtoms t)).before a st = _
    rw [Jvm.Cond.before_and, ih, List.all_cons]
def words1 : List Jvm.Cond := Jvm.Cond.code x code maxLocals ret :: tables_1
/-- a 'code' word, met by the world's own term for the bytes: nothing is compared byte by byte -/
theorem code_word {y : MethodName} {bytes : ByteArray} {mx : Nat} {rt : Option FieldType} {a : Array Value} {s : State} {m : MethodId} {meth : Method} {c : Code} (h1 : s.methodNamed? y = some m) (h2 : s.vm.method? m = some meth) (h3 : meth.code = some c) (h4 : c.code = bytes)
    (h5 : (c.maxLocals == mx && c.exceptionTable.isEmpty && decide (c.maxStack ≤ mostOperands) && decide (meth.sig.returnType = rt) && !meth.locks && decide (parseMethodDescriptor y.desc = some meth.sig)) = true) : (Jvm.Cond.code y bytes mx rt).before a s = true := by
  simp only [Bool.and_eq_true, beq_iff_eq, Bool.not_eq_true', decide_eq_true_eq] at h5
  obtain ⟨⟨⟨⟨⟨g1, g2⟩, g3⟩, g4⟩, g5⟩, g6⟩ := h5
  simp [Cond.before, Cond.holds, Cond.value, h1, h2, h3, h4, g1, g2, g3, g4, g5, g6]
def isCode : Jvm.Cond → Bool
  | .code _ _ _ _ => true
  | _ => false
theorem all_split {L : List Jvm.Cond} {P : Jvm.Cond → Bool} (h1 : L.all (fun c => isCode c || P c) = true) (h2 : ∀ c ∈ L.filter isCode, P c = true) : L.all P = true := by
  refine List.all_eq_true.mpr fun c hc => ?_
  have h := List.all_eq_true.mp h1 c hc
  rcases Bool.eq_false_or_eq_true (isCode c) with hi | hi
  · exact h2 c (List.mem_filter.mpr ⟨hc, hi⟩)
  · simpa [hi] using h
set_option maxRecDepth 65536 in
theorem w_c0 : (Jvm.Cond.code x code maxLocals ret).before args0 about1 = true := code_word (m := ⟨1, 1⟩) (meth := k1m1) (c := k1c1) (by decide +kernel) rfl rfl rfl (by decide +kernel)
set_option maxRecDepth 65536 in
theorem w_c1 : (Jvm.Cond.code ({ cls := "java/lang/String", name := "charAt", desc := "(I)C" } : Jvm.MethodName) jdk_42_method_56_code (2 : Nat) (Option.some Jvm.ClassFile.FieldType.char)).before args0 about1 = true := code_word (m := ⟨7, 1⟩) (meth := k7m1) (c := k7c1) (by decide +kernel) rfl rfl rfl (by decide +kernel)
set_option maxRecDepth 65536 in
theorem w_c2 : (Jvm.Cond.code ({ cls := "java/lang/String", name := "isLatin1", desc := "()Z" } : Jvm.MethodName) jdk_42_method_154_code (1 : Nat) (Option.some Jvm.ClassFile.FieldType.boolean)).before args0 about1 = true := code_word (m := ⟨7, 2⟩) (meth := k7m2) (c := k7c2) (by decide +kernel) rfl rfl rfl (by decide +kernel)
set_option maxRecDepth 65536 in
theorem w_c3 : (Jvm.Cond.code ({ cls := "java/lang/StringLatin1", name := "charAt", desc := "([BI)C" } : Jvm.MethodName) jdk_43_method_2_code (2 : Nat) (Option.some Jvm.ClassFile.FieldType.char)).before args0 about1 = true := code_word (m := ⟨8, 1⟩) (meth := k8m1) (c := k8c1) (by decide +kernel) rfl rfl rfl (by decide +kernel)
set_option maxRecDepth 65536 in
theorem w_c4 : (Jvm.Cond.code ({ cls := "java/lang/String", name := "checkIndex", desc := "(II)V" } : Jvm.MethodName) jdk_42_method_155_code (2 : Nat) (Option.none : Option Jvm.ClassFile.FieldType)).before args0 about1 = true := code_word (m := ⟨7, 3⟩) (meth := k7m3) (c := k7c3) (by decide +kernel) rfl rfl rfl (by decide +kernel)
set_option maxRecDepth 65536 in
theorem w_c5 : (Jvm.Cond.code ({ cls := "jdk/internal/util/Preconditions", name := "checkIndex", desc := "(IILjava/util/function/BiFunction;)I" } : Jvm.MethodName) jdk_41_method_11_code (3 : Nat) (Option.some Jvm.ClassFile.FieldType.int)).before args0 about1 = true := code_word (m := ⟨9, 1⟩) (meth := k9m1) (c := k9c1) (by decide +kernel) rfl rfl rfl (by decide +kernel)
set_option maxRecDepth 65536 in
theorem w_c6 : (Jvm.Cond.code ({ cls := "com/example/evbind/evbind/Ascii", name := "hexValue", desc := "(I)I" } : Jvm.MethodName) prog_4_method_2_code (1 : Nat) (Option.some Jvm.ClassFile.FieldType.int)).before args0 about1 = true := code_word (m := ⟨10, 1⟩) (meth := k10m1) (c := k10c1) (by decide +kernel) rfl rfl rfl (by decide +kernel)
def codes1 : List Jvm.Cond := [Jvm.Cond.code x code maxLocals ret, Jvm.Cond.code ({ cls := "java/lang/String", name := "charAt", desc := "(I)C" } : Jvm.MethodName) jdk_42_method_56_code (2 : Nat) (Option.some Jvm.ClassFile.FieldType.char), Jvm.Cond.code ({ cls := "java/lang/String", name := "isLatin1", desc := "()Z" } : Jvm.MethodName) jdk_42_method_154_code (1 : Nat) (Option.some Jvm.ClassFile.FieldType.boolean), Jvm.Cond.code ({ cls := "java/lang/StringLatin1", name := "charAt", desc := "([BI)C" } : Jvm.MethodName) jdk_43_method_2_code (2 : Nat) (Option.some Jvm.ClassFile.FieldType.char), Jvm.Cond.code ({ cls := "java/lang/String", name := "checkIndex", desc := "(II)V" } : Jvm.MethodName) jdk_42_method_155_code (2 : Nat) (Option.none : Option Jvm.ClassFile.FieldType), Jvm.Cond.code ({ cls := "jdk/internal/util/Preconditions", name := "checkIndex", desc := "(IILjava/util/function/BiFunction;)I" } : Jvm.MethodName) jdk_41_method_11_code (3 : Nat) (Option.some Jvm.ClassFile.FieldType.int), Jvm.Cond.code ({ cls := "com/example/evbind/evbind/Ascii", name := "hexValue", desc := "(I)I" } : Jvm.MethodName) prog_4_method_2_code (1 : Nat) (Option.some Jvm.ClassFile.FieldType.int)]
set_option maxRecDepth 65536 in
theorem codes_eq : words1.filter isCode = codes1 := rfl
theorem w_codes : ∀ c ∈ words1.filter isCode, c.before args0 about1 = true := by
  rw [codes_eq]
  intro c hc
  simp only [codes1, List.mem_cons, List.not_mem_nil, or_false] at hc
  rcases hc with rfl | rfl | rfl | rfl | rfl | rfl | rfl
  · exact w_c0
  · exact w_c1
  · exact w_c2
  · exact w_c3
  · exact w_c4
  · exact w_c5
  · exact w_c6
set_option maxRecDepth 65536 in
theorem w_t1 : (words1.take 24).all (fun c => isCode c || c.before args0 about1) = true := by decide +kernel
set_option maxRecDepth 65536 in
theorem w_t2 : (words1.drop 24).all (fun c => isCode c || c.before args0 about1) = true := by decide +kernel
theorem w_tables : (allAtoms (Jvm.Cond.code x code maxLocals ret :: tables_1)).before args0 about1 = true := by
  rw [allAtoms_all]
  show words1.all (fun c => c.before args0 about1) = true
  refine all_split ?_ w_codes
  rw [← List.take_append_drop 24 words1, List.all_append, w_t1, w_t2]
  rfl
set_option maxRecDepth 65536 in
theorem w_rest : rest_1_c.before args0 about1 = true := by decide +kernel
set_option maxRecDepth 65536 in
theorem w_case : (Jvm.Cond.and given_1 narrow_1).before args0 about1 = true := by decide +kernel
set_option maxRecDepth 65536 in
theorem w_consts : constsHeld consts_1 about1 := Jvm.Lit.constsHeldB_iff.mp (by decide +kernel)
theorem w_applies : (headSpec (Jvm.Cond.code x code maxLocals ret :: tables_1) room_1).applies x e0.platform about1 = true :=
  (Spec.applies_iff w_frames).mpr ⟨w_running, w_runnable, w_alone, w_named, w_hears, w_ripe, w_room, w_tables⟩
theorem atStart : AtStart classFile x code maxLocals ret World_1 tables_1 room_1 Calls_1 rest_1 Pre_1 launch0 p0 e0 about1 theMethod args0 below0 :=
  ⟨lists_1, trivial, launch0.admits_env _ _ _, launch0.least_env, fairChoices_fair.cas, fairChoices_fair.clock, w_frames, w_args, w_heap, w_applies, ⟨w_consts, trivial⟩, w_rest, w_case⟩
end start1
theorem witness_1 : WitnessClaimed_1 := ⟨start1.p0, start1.e0, start1.about1, start1.theMethod, start1.args0, start1.below0, start1.atStart⟩
end Jvm.Pilot.@@N@@
