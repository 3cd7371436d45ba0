import JvmDerived
import JvmDerived.Pilot.@@N@@Statement
import JvmDerived.Pilot.@@N@@Code
set_option linter.unusedVariables false
set_option linter.unusedSimpArgs false
namespace Jvm.Road
open Jvm Jvm.ClassFile Sem Op Lib Jvm.Free Jvm.Stand Jvm.LawKit Jvm.RoadKit Bundle
/-! THE ROAD LAYER: one goal 'Go' for a walk, every step a law 'Go next -> Go here'; a callee's summary 'Con'. -/
abbrev Bdy : Type := MethodName × ByteArray × Nat × Option FieldType × Room
abbrev Bdy.y (B : Bdy) : MethodName := B.1
abbrev Bdy.bs (B : Bdy) : ByteArray := B.2.1
abbrev Bdy.ml (B : Bdy) : Nat := B.2.2.1
abbrev Bdy.rt (B : Bdy) : Option FieldType := B.2.2.2.1
abbrev Bdy.rm (B : Bdy) : Room := B.2.2.2.2
abbrev Dyn : Type := Program × Env × State × MethodId × Array Value × List Frame × Method × Code
abbrev Dyn.p (D : Dyn) : Program := D.1
abbrev Dyn.e (D : Dyn) : Env := D.2.1
abbrev Dyn.s (D : Dyn) : State := D.2.2.1
abbrev Dyn.m (D : Dyn) : MethodId := D.2.2.2.1
abbrev Dyn.args (D : Dyn) : Array Value := D.2.2.2.2.1
abbrev Dyn.bl (D : Dyn) : List Frame := D.2.2.2.2.2.1
abbrev Dyn.meth (D : Dyn) : Method := D.2.2.2.2.2.2.1
abbrev Dyn.c (D : Dyn) : Code := D.2.2.2.2.2.2.2
/-- a cell that this law's run has made and that no constant of EL stands for: it may be written -/
abbrev MC (n0 : Nat) : Nat := n0 + 1000
/-- a mark: constant number k of EL is resolved, at a -/
def lm (n0 k : Nat) (a : Addr) : Addr := MC n0 + 64 * a + k
def OwnR (Z : State) (EL : List (String × Nat)) (n0 : Nat) (vm : Vm) (h : Heap) (x : Addr) : Prop := Safe Z EL vm h x ∧ n0 ≤ x ∧ x < h.size
def Mk (Z : State) (EL : List (String × Nat)) (n0 : Nat) (vm : Vm) (x : Addr) : Prop := ∃ (k : Nat) (a : Addr) (p : String × Nat), k < 64 ∧ x = lm n0 k a ∧ EL[k]? = some p ∧ (Z.setVm vm).resolvedAt? p.1 p.2 = some (.string a)
def Own (Z : State) (EL : List (String × Nat)) (n0 : Nat) (vm : Vm) (h : Heap) (x : Addr) : Prop := OwnR Z EL n0 vm h x ∨ Mk Z EL n0 vm x
theorem Mk.ge {Z : State} {EL : List (String × Nat)} {n0 : Nat} {vm : Vm} {x : Addr} (M : Mk Z EL n0 vm x) : MC n0 ≤ x := by obtain ⟨k, a, p, -, rfl, -⟩ := M; show n0 + 1000 ≤ n0 + 1000 + 64 * a + k; exact Nat.le_trans (Nat.le_add_right _ _) (Nat.le_add_right _ _)
theorem Own.real {Z : State} {EL : List (String × Nat)} {n0 : Nat} {vm : Vm} {h : Heap} {x : Addr} (H : Own Z EL n0 vm h x) (hx : x < h.size) (hM : h.size ≤ MC n0) : OwnR Z EL n0 vm h x := H.elim id (fun M => absurd (Nat.lt_of_lt_of_le hx hM) (Nat.not_lt.mpr M.ge))
theorem lm_inj {n a b k j : Nat} (hk : k < 64) (hj : j < 64) (h : n + 64 * a + k = n + 64 * b + j) : k = j ∧ a = b := by omega
theorem Mk.later {Z s : State} {EL : List (String × Nat)} {n0 : Nat} {vm vm1 : Vm} {x : Addr} (M : Mk Z EL n0 vm x) (hW : (s.setVm vm).Warmed39 vm1) : Mk Z EL n0 vm1 x := by
  obtain ⟨k, a, p, h1, h2, h3, h4⟩ := M
  exact ⟨k, a, p, h1, h2, h3, State.resolvedAt?_warmed39 (s := s.setVm vm) hW h4⟩
def Ok (B : Bdy) (D : Dyn) : Prop := D.p.tables.exec = Jvm.exec ∧ D.c.code = B.bs ∧ D.c.maxLocals = B.ml ∧ D.meth.sig.returnType = B.rt ∧ D.meth.locks = false ∧ D.meth.name = B.y.name
def Inv (l : Launch) (Z : State) (EL : List (String × Nat)) (n0 : Nat) (kn : Bool) (B : Bdy) (D : Dyn) (h : Heap) (σ : Addr → Prop) (ce sl : Nat) (T : State) (vm0 : Vm) : Prop :=
  ∃ (k0 : Nat) (locs : List Loc), Stand D.p l D.e B.rm (D.s.setVm vm0) D.m D.args D.bl D.meth D.c T locs ce sl ∧ T.heap = h ∧ D.s.Since vm0 k0 ∧ k0 ≤ h.size ∧ Z.Warmed39 vm0 ∧ vm0.findClass B.y.cls = some D.m.cls ∧
    CHr Z EL D.s.vm D.s.heap vm0 h ∧ Fr n0 locs ∧ Old Z n0 h ∧ (∀ x, σ x → Own Z EL n0 vm0 h x) ∧ (kn = true → vm0.MethodsKnown ∧ vm0.FramesKnown D.bl) ∧ ce ≤ B.rm.cells ∧ D.s.heap.size + B.rm.cells ≤ MC n0
abbrev Post : Type := Option Value → Heap → (Addr → Prop) → Prop
def Ends (Z : State) (EL : List (String × Nat)) (n0 : Nat) (B : Bdy) (D : Dyn) (Q : Post) (t0 : State) : Prop :=
  ∃ s₂ o, Steps D.p.tables D.e D.bl t0 s₂ ∧ s₂.status = .running ∧ Ended s₂ D.bl o ∧
    ∃ v L, o = .returned v ∧ Q v s₂.heap (Own Z EL n0 s₂.vm s₂.heap) ∧ Fr n0 L ∧ CHr Z EL D.s.vm D.s.heap s₂.vm s₂.heap ∧ Old Z n0 s₂.heap ∧ ReturnedEndW D.s o s₂ L B.rm.cells B.rm.slots
def Go (l : Launch) (Z : State) (a0 : Array Value) (EL : List (String × Nat)) (n0 : Nat) (kn : Bool) (B : Bdy) (D : Dyn) (Q : Post) (h : Heap) (σ : Addr → Prop) (ce sl : Nat) (pc : Nat) (Ls : Array Slot) (st : List Value) : Prop :=
  Ok B D → EW Z a0 EL → ∀ (T : State) (vm0 : Vm), Inv l Z EL n0 kn B D h σ ce sl T vm0 → Ends Z EL n0 B D Q (T.setTop (mkF D.m pc Ls st))
/-- what is asked of a callee -/
def Con (l : Launch) (Z : State) (EL : List (String × Nat)) (n0 : Nat) (kn : Bool) (B : Bdy) (ws : List Jvm.Cond) (σ : Addr → Prop) (as : Array Value) (h : Heap) (Q : Post) : Prop :=
  MetFree l B.y (head1 (Jvm.Cond.code B.y B.bs B.ml B.rt :: ws) B.rm)
    (fun a U => a = as ∧ Z.Warmed39 U.vm ∧ U.heap = h ∧ CHv Z EL U.vm h ∧ Old Z n0 h ∧ h.size + B.rm.cells ≤ MC n0 ∧ ∀ x, σ x → Own Z EL n0 U.vm h x)
    (fun _ _ bl s _ => kn = true → s.vm.MethodsKnown ∧ s.vm.FramesKnown bl)
    (fun _ U o U' => ∃ v L, o = .returned v ∧ Q v U'.heap (Own Z EL n0 U'.vm U'.heap) ∧ Fr n0 L ∧ CHr Z EL U.vm U.heap U'.vm U'.heap ∧ Old Z n0 U'.heap ∧ ReturnedEndW U o U' L B.rm.cells B.rm.slots)
def push : Option Value → List Value → List Value
  | some v, r => v :: r
  | none, r => r
theorem push_eq (v : Option Value) (r : List Value) : v.toList ++ r = push v r := by cases v <;> rfl
section Laws
variable {l : Launch} {Z : State} {a0 : Array Value} {EL : List (String × Nat)} {n0 : Nat} {kn : Bool} {B : Bdy} {D : Dyn} {Q : Post} {h h' : Heap} {σ : Addr → Prop} {ce sl : Nat} {Ls : Array Slot} {st : List Value}
theorem Con.of {ws : List Jvm.Cond} (hpn : plainFor B.y = true) (hEW : EW Z a0 EL) {as : Array Value} (Ls0 : Array Slot) (hef : ∀ m, entryFrame m as B.ml = mkF m 0 Ls0 [])
    (body : ∀ D : Dyn, D.s.heap = h → Go l Z a0 EL n0 kn B D Q h σ 0 0 0 Ls0 []) : Con l Z EL n0 kn B ws σ as h Q := by
  refine MetFree.of_bodySF hpn hisR ?_
  intro p e s m args below meth c s₁ Bd hml hP hK
  obtain ⟨rfl, hZ, hh, hC, hO, hbd, hσ⟩ := hP
  have hnm := (name_of_methodNamed Bd.named Bd.method).1
  have hown := findClass_of_methodNamed Bd.named
  have X0 : Stand p l e B.rm s m args below meth c s₁ [] 0 0 := Stand.of_body Bd
  have e0 : s₁.heap = h := by rw [← hh, Bd.state]; rfl
  obtain ⟨s2, o, st, hr, he, r⟩ := body (p, e, s, m, args, below, meth, c) hh ⟨Bd.exec, Bd.bytes, hml, Bd.returns, Bd.notSynchronized, hnm⟩ hEW s₁ s.vm
    ⟨0, [], X0, e0, (State.WarmedH.refl s).since 0, Nat.zero_le _, hZ, hown, by subst hh; exact CHr.refl hC, Fr.nil n0, hO, hσ, hK, Nat.zero_le _, hh ▸ hbd⟩
  exact ⟨s2, o, castTop (hef m) st, hr, he, r⟩
/-- one plain step -/
theorem Go.step {pc pc' : Nat} {Ls' : Array Slot} {st' : List Value} (k : ∀ T, At T D.m D.c D.bl → D.p.tables.exec = Jvm.exec → D.c.code = B.bs → ∀ t, Steps D.p.tables D.e D.bl (T.setTop (mkF D.m pc' Ls' st')) t → Steps D.p.tables D.e D.bl (T.setTop (mkF D.m pc Ls st)) t)
    (r : Go l Z a0 EL n0 kn B D Q h σ ce sl pc' Ls' st') : Go l Z a0 EL n0 kn B D Q h σ ce sl pc Ls st := by
  intro ok ew T vm0 I
  obtain ⟨s2, o, q, rest⟩ := r ok ew T vm0 I
  obtain ⟨k0, locs, X, -⟩ := I
  exact ⟨s2, o, k T X.here ok.1 ok.2.1 _ q, rest⟩
/-- fewer permissions, more room taken: what was shown serves -/
theorem Go.weaken {pc : Nat} {σ' : Addr → Prop} {ce' sl' : Nat} (hσ : ∀ x, σ' x → σ x) (hc : ce ≤ ce') (hs : sl ≤ sl') (r : Go l Z a0 EL n0 kn B D Q h σ' ce' sl' pc Ls st) (hcm : ce' ≤ B.rm.cells := by decide) : Go l Z a0 EL n0 kn B D Q h σ ce sl pc Ls st := by
  intro ok ew T vm0 I
  obtain ⟨k0, locs, X, h1, h2, h3, h4, h5, h6, h7, h8, h9, h10⟩ := I
  exact r ok ew T vm0 ⟨k0, locs, X.mono hc hs, h1, h2, h3, h4, h5, h6, h7, h8, fun x q => h9 x (hσ x q), h10.1, hcm, h10.2.2⟩
/-- facts that the walk bears -/
theorem Go.old {pc : Nat} (r : Old Z n0 h → Go l Z a0 EL n0 kn B D Q h σ ce sl pc Ls st) : Go l Z a0 EL n0 kn B D Q h σ ce sl pc Ls st := by
  intro ok ew T vm0 I
  refine r ?_ ok ew T vm0 I
  obtain ⟨k0, locs, X, h1, h2, h3, h4, h5, h6, h7, h8, h9, h10⟩ := I
  exact h8
end Laws
end Jvm.Road
namespace Jvm.Road
open Jvm Jvm.ClassFile Sem Op Lib Jvm.Free Jvm.Stand Jvm.LawKit Jvm.RoadKit Bundle
theorem bound {l : Launch} {n0 : Nat} {B : Bdy} {D : Dyn} {vm0 : Vm} {T : State} {locs : List Loc} {ce sl : Nat} (X : Stand D.p l D.e B.rm (D.s.setVm vm0) D.m D.args D.bl D.meth D.c T locs ce sl) (hc : ce ≤ B.rm.cells ∧ D.s.heap.size + B.rm.cells ≤ MC n0) : T.heap.size ≤ MC n0 :=
  Nat.le_trans X.heapSize (Nat.le_trans (Nat.add_le_add_left hc.1 _) hc.2)
theorem Go.ownAll {l : Launch} {Z : State} {a0 : Array Value} {EL : List (String × Nat)} {n0 : Nat} {kn : Bool} {B : Bdy} {D : Dyn} {Q : Post} {h : Heap} {σ : Addr → Prop} {ce sl : Nat} {Ls : Array Slot} {st : List Value} {pc : Nat}
    (r : (∀ x, σ x → h.size ≤ MC n0 ∧ (MC n0 ≤ x ∨ n0 ≤ x ∧ x < h.size)) → Go l Z a0 EL n0 kn B D Q h σ ce sl pc Ls st) : Go l Z a0 EL n0 kn B D Q h σ ce sl pc Ls st := by
  intro ok ew T vm0 I
  refine r ?_ ok ew T vm0 I
  obtain ⟨k0, locs, X, h1, h2, h3, h4, h5, h6, h7, h8, h9, h10⟩ := I
  exact fun x hx => ⟨h1 ▸ bound X h10.2, (h9 x hx).elim (fun q => Or.inr q.2) (fun q => Or.inl q.ge)⟩
theorem keep_more {h h' : Heap} {ws : List Addr} (K : Keep h h' []) : Keep h h' ws := ⟨K.1, fun x c q _ => K.2.1 x c q nin0, K.2.2⟩
end Jvm.Road
namespace Jvm.Road
open Jvm Jvm.ClassFile Sem Op Lib Jvm.Free Jvm.Stand Jvm.LawKit Jvm.RoadKit Bundle
theorem laid0 : Jvm.Sym.laidSlots [] = [] := rfl
theorem laid1 {v : Value} {vs : List Value} {L : List Slot} (hc : v.category = 1) (h : Jvm.Sym.laidSlots vs = L) : Jvm.Sym.laidSlots (v :: vs) = .val v :: L := by
  rw [Jvm.Sym.laidSlots, hc, h]; rfl
theorem laid2 {v : Value} {vs : List Value} {L : List Slot} (hc : v.category = 2) (h : Jvm.Sym.laidSlots vs = L) : Jvm.Sym.laidSlots (v :: vs) = .val v :: .second :: L := by
  rw [Jvm.Sym.laidSlots, hc, h]; rfl
theorem ent {m : MethodId} {args : Array Value} {n k : Nat} {Ls : Array Slot} {L : List Slot} (h : Jvm.Sym.laidSlots args.toList = L) (hk : n - L.length = k) (hL : L ++ List.replicate k .unset = Ls.toList) : entryFrame m args n = mkF m 0 Ls [] := by
  have : argsToLocals args n = Ls := Array.toList_inj.mp (by rw [Jvm.Sym.argsToLocals_toList, h, hk]; exact hL)
  unfold entryFrame
  rw [this]
end Jvm.Road
namespace Jvm.Road
open Jvm Jvm.ClassFile Sem Op Lib Jvm.Free Jvm.Stand Jvm.LawKit Jvm.RoadKit Bundle
/-- what i2c leaves -/
abbrev chr (x : Int32) : Int32 := x.toUInt32.toUInt16.toUInt32.toInt32
section Plain
variable {l : Launch} {Z : State} {a0 : Array Value} {EL : List (String × Nat)} {n0 : Nat} {kn : Bool} {B : Bdy} {D : Dyn} {Q : Post} {h : Heap} {σ : Addr → Prop} {ce sl : Nat} {Ls : Array Slot} {st : List Value}
theorem aload (pc : Nat) {k : Nat} {v : Value} (hd : decode B.bs pc = .ok (.aload k, 2)) (hl : Ls[k]? = some (.val v))  (r : Go l Z a0 EL n0 kn B D Q h σ ce sl (pc + 2) Ls (v :: st)) (hv : v.isRef = true := by rfl) : Go l Z a0 EL n0 kn B D Q h σ ce sl pc Ls st :=
  Go.step (fun T hA hx hb t q => XS.aload hA hx rfl (Jvm.hb hb hd) hl hv q) r
theorem aloadN (pc : Nat) {k : Fin 4} {v : Value} (hd : decode B.bs pc = .ok (.aload_n k, 1)) (hl : Ls[k.val]? = some (.val v))  (r : Go l Z a0 EL n0 kn B D Q h σ ce sl (pc + 1) Ls (v :: st)) (hv : v.isRef = true := by rfl) : Go l Z a0 EL n0 kn B D Q h σ ce sl pc Ls st :=
  Go.step (fun T hA hx hb t q => XS.aloadN hA hx rfl (Jvm.hb hb hd) hl hv q) r
theorem iload (pc : Nat) {k : Nat} {v : Int32} (hd : decode B.bs pc = .ok (.iload k, 2)) (hl : Ls[k]? = some (.val (.int v))) (r : Go l Z a0 EL n0 kn B D Q h σ ce sl (pc + 2) Ls (.int v :: st))  : Go l Z a0 EL n0 kn B D Q h σ ce sl pc Ls st :=
  Go.step (fun T hA hx hb t q => XS.iload hA hx rfl (Jvm.hb hb hd) hl q) r
theorem iloadN (pc : Nat) {k : Fin 4} {v : Int32} (hd : decode B.bs pc = .ok (.iload_n k, 1)) (hl : Ls[k.val]? = some (.val (.int v))) (r : Go l Z a0 EL n0 kn B D Q h σ ce sl (pc + 1) Ls (.int v :: st))  : Go l Z a0 EL n0 kn B D Q h σ ce sl pc Ls st :=
  Go.step (fun T hA hx hb t q => XS.iloadN hA hx rfl (Jvm.hb hb hd) hl q) r
theorem lload (pc : Nat) {k : Nat} {v : Int64} (hd : decode B.bs pc = .ok (.lload k, 2)) (hl : Ls[k]? = some (.val (.long v))) (r : Go l Z a0 EL n0 kn B D Q h σ ce sl (pc + 2) Ls (.long v :: st))  : Go l Z a0 EL n0 kn B D Q h σ ce sl pc Ls st :=
  Go.step (fun T hA hx hb t q => XT.lload hA hx rfl (Jvm.hb hb hd) hl q) r
theorem lloadN (pc : Nat) {k : Fin 4} {v : Int64} (hd : decode B.bs pc = .ok (.lload_n k, 1)) (hl : Ls[k.val]? = some (.val (.long v))) (r : Go l Z a0 EL n0 kn B D Q h σ ce sl (pc + 1) Ls (.long v :: st))  : Go l Z a0 EL n0 kn B D Q h σ ce sl pc Ls st :=
  Go.step (fun T hA hx hb t q => XT.lloadN hA hx rfl (Jvm.hb hb hd) hl q) r
theorem iconst (pc : Nat) {i : Int} (v : Int32) (hd : decode B.bs pc = .ok (.iconst i, 1)) (hv : Int32.ofInt i = v) (r : Go l Z a0 EL n0 kn B D Q h σ ce sl (pc + 1) Ls (.int v :: st))  : Go l Z a0 EL n0 kn B D Q h σ ce sl pc Ls st :=
  Go.step (fun T hA hx hb t q => XT.iconstV hA hx rfl v (Jvm.hb hb hd) hv q) r
theorem bipush (pc : Nat) {i : Int} (v : Int32) (hd : decode B.bs pc = .ok (.bipush i, 2)) (hv : (Int8.ofInt i).toInt32 = v) (r : Go l Z a0 EL n0 kn B D Q h σ ce sl (pc + 2) Ls (.int v :: st))  : Go l Z a0 EL n0 kn B D Q h σ ce sl pc Ls st :=
  Go.step (fun T hA hx hb t q => XT.bipushV hA hx rfl v (Jvm.hb hb hd) hv q) r
theorem sipush (pc : Nat) {i : Int} (v : Int32) (hd : decode B.bs pc = .ok (.sipush i, 3)) (hv : (Int16.ofInt i).toInt32 = v) (r : Go l Z a0 EL n0 kn B D Q h σ ce sl (pc + 3) Ls (.int v :: st))  : Go l Z a0 EL n0 kn B D Q h σ ce sl pc Ls st :=
  Go.step (fun T hA hx hb t q => XT.sipushV hA hx rfl v (Jvm.hb hb hd) hv q) r
theorem lconst (pc : Nat) {k : Fin 2} (v : Int64) (hd : decode B.bs pc = .ok (.lconst k, 1)) (hv : Int64.ofNat k = v) (r : Go l Z a0 EL n0 kn B D Q h σ ce sl (pc + 1) Ls (.long v :: st))  : Go l Z a0 EL n0 kn B D Q h σ ce sl pc Ls st :=
  Go.step (fun T hA hx hb t q => XT.lconstV hA hx rfl v (Jvm.hb hb hd) hv q) r
theorem aconstNull (pc : Nat)  (hd : decode B.bs pc = .ok (.aconst_null, 1))  (r : Go l Z a0 EL n0 kn B D Q h σ ce sl (pc + 1) Ls (.null :: st))  : Go l Z a0 EL n0 kn B D Q h σ ce sl pc Ls st :=
  Go.step (fun T hA hx hb t q => XS.aconstNull hA hx rfl (Jvm.hb hb hd) q) r
theorem iadd (pc : Nat) {x y : Int32} (hd : decode B.bs pc = .ok (.iadd, 1))  (r : Go l Z a0 EL n0 kn B D Q h σ ce sl (pc + 1) Ls (.int (x + y) :: st))  : Go l Z a0 EL n0 kn B D Q h σ ce sl pc Ls (.int y :: .int x :: st) :=
  Go.step (fun T hA hx hb t q => XS.iadd hA hx rfl (Jvm.hb hb hd) rfl q) r
theorem isub (pc : Nat) {x y : Int32} (hd : decode B.bs pc = .ok (.isub, 1))  (r : Go l Z a0 EL n0 kn B D Q h σ ce sl (pc + 1) Ls (.int (x - y) :: st))  : Go l Z a0 EL n0 kn B D Q h σ ce sl pc Ls (.int y :: .int x :: st) :=
  Go.step (fun T hA hx hb t q => XS.isub hA hx rfl (Jvm.hb hb hd) rfl q) r
theorem iand (pc : Nat) {x y : Int32} (hd : decode B.bs pc = .ok (.iand, 1))  (r : Go l Z a0 EL n0 kn B D Q h σ ce sl (pc + 1) Ls (.int (x &&& y) :: st))  : Go l Z a0 EL n0 kn B D Q h σ ce sl pc Ls (.int y :: .int x :: st) :=
  Go.step (fun T hA hx hb t q => XS.iand hA hx rfl (Jvm.hb hb hd) rfl q) r
theorem imul (pc : Nat) {x y : Int32} (hd : decode B.bs pc = .ok (.imul, 1))  (r : Go l Z a0 EL n0 kn B D Q h σ ce sl (pc + 1) Ls (.int (x * y) :: st))  : Go l Z a0 EL n0 kn B D Q h σ ce sl pc Ls (.int y :: .int x :: st) :=
  Go.step (fun T hA hx hb t q => XS.imul hA hx rfl (Jvm.hb hb hd) rfl q) r
theorem ixor (pc : Nat) {x y : Int32} (hd : decode B.bs pc = .ok (.ixor, 1))  (r : Go l Z a0 EL n0 kn B D Q h σ ce sl (pc + 1) Ls (.int (x ^^^ y) :: st))  : Go l Z a0 EL n0 kn B D Q h σ ce sl pc Ls (.int y :: .int x :: st) :=
  Go.step (fun T hA hx hb t q => XT.ixor hA hx rfl (Jvm.hb hb hd) rfl q) r
theorem ior (pc : Nat) {x y : Int32} (hd : decode B.bs pc = .ok (.ior, 1))  (r : Go l Z a0 EL n0 kn B D Q h σ ce sl (pc + 1) Ls (.int (x ||| y) :: st))  : Go l Z a0 EL n0 kn B D Q h σ ce sl pc Ls (.int y :: .int x :: st) :=
  Go.step (fun T hA hx hb t q => XT.ior hA hx rfl (Jvm.hb hb hd) rfl q) r
theorem ishl (pc : Nat) {x y : Int32} (hd : decode B.bs pc = .ok (.ishl, 1))  (r : Go l Z a0 EL n0 kn B D Q h σ ce sl (pc + 1) Ls (.int (x <<< (y &&& 31)) :: st))  : Go l Z a0 EL n0 kn B D Q h σ ce sl pc Ls (.int y :: .int x :: st) :=
  Go.step (fun T hA hx hb t q => XT.ishl hA hx rfl (Jvm.hb hb hd) rfl q) r
theorem ishr (pc : Nat) {x y : Int32} (hd : decode B.bs pc = .ok (.ishr, 1))  (r : Go l Z a0 EL n0 kn B D Q h σ ce sl (pc + 1) Ls (.int (x >>> (y &&& 31)) :: st))  : Go l Z a0 EL n0 kn B D Q h σ ce sl pc Ls (.int y :: .int x :: st) :=
  Go.step (fun T hA hx hb t q => XT.ishr hA hx rfl (Jvm.hb hb hd) rfl q) r
theorem iushr (pc : Nat) {x y : Int32} (hd : decode B.bs pc = .ok (.iushr, 1))  (r : Go l Z a0 EL n0 kn B D Q h σ ce sl (pc + 1) Ls (.int (XT.ushr x y) :: st))  : Go l Z a0 EL n0 kn B D Q h σ ce sl pc Ls (.int y :: .int x :: st) :=
  Go.step (fun T hA hx hb t q => XT.iushr hA hx rfl (Jvm.hb hb hd) rfl q) r
theorem idiv (pc : Nat) {x y : Int32} (hd : decode B.bs pc = .ok (.idiv, 1)) (hy : y ≠ 0) (r : Go l Z a0 EL n0 kn B D Q h σ ce sl (pc + 1) Ls (.int (x / y) :: st))  : Go l Z a0 EL n0 kn B D Q h σ ce sl pc Ls (.int y :: .int x :: st) :=
  Go.step (fun T hA hx hb t q => XS.idiv hA hx rfl (Jvm.hb hb hd) rfl hy q) r
theorem irem (pc : Nat) {x y : Int32} (hd : decode B.bs pc = .ok (.irem, 1)) (hy : y ≠ 0) (r : Go l Z a0 EL n0 kn B D Q h σ ce sl (pc + 1) Ls (.int (x % y) :: st))  : Go l Z a0 EL n0 kn B D Q h σ ce sl pc Ls (.int y :: .int x :: st) :=
  Go.step (fun T hA hx hb t q => XS.irem hA hx rfl (Jvm.hb hb hd) rfl hy (by rw [irem_eq_mod]; exact q)) r
theorem ineg (pc : Nat) {x : Int32} (hd : decode B.bs pc = .ok (.ineg, 1))  (r : Go l Z a0 EL n0 kn B D Q h σ ce sl (pc + 1) Ls (.int (-x) :: st))  : Go l Z a0 EL n0 kn B D Q h σ ce sl pc Ls (.int x :: st) :=
  Go.step (fun T hA hx hb t q => XS.ineg hA hx rfl (Jvm.hb hb hd) rfl q) r
theorem ladd (pc : Nat) {x y : Int64} (hd : decode B.bs pc = .ok (.ladd, 1))  (r : Go l Z a0 EL n0 kn B D Q h σ ce sl (pc + 1) Ls (.long (x + y) :: st))  : Go l Z a0 EL n0 kn B D Q h σ ce sl pc Ls (.long y :: .long x :: st) :=
  Go.step (fun T hA hx hb t q => XT.ladd hA hx rfl (Jvm.hb hb hd) rfl q) r
theorem lsub (pc : Nat) {x y : Int64} (hd : decode B.bs pc = .ok (.lsub, 1))  (r : Go l Z a0 EL n0 kn B D Q h σ ce sl (pc + 1) Ls (.long (x - y) :: st))  : Go l Z a0 EL n0 kn B D Q h σ ce sl pc Ls (.long y :: .long x :: st) :=
  Go.step (fun T hA hx hb t q => XT.lsub hA hx rfl (Jvm.hb hb hd) rfl q) r
theorem land (pc : Nat) {x y : Int64} (hd : decode B.bs pc = .ok (.land, 1))  (r : Go l Z a0 EL n0 kn B D Q h σ ce sl (pc + 1) Ls (.long (x &&& y) :: st))  : Go l Z a0 EL n0 kn B D Q h σ ce sl pc Ls (.long y :: .long x :: st) :=
  Go.step (fun T hA hx hb t q => XT.land hA hx rfl (Jvm.hb hb hd) rfl q) r
theorem lmul (pc : Nat) {x y : Int64} (hd : decode B.bs pc = .ok (.lmul, 1))  (r : Go l Z a0 EL n0 kn B D Q h σ ce sl (pc + 1) Ls (.long (x * y) :: st))  : Go l Z a0 EL n0 kn B D Q h σ ce sl pc Ls (.long y :: .long x :: st) :=
  Go.step (fun T hA hx hb t q => XT.lmul hA hx rfl (Jvm.hb hb hd) rfl q) r
theorem lxor (pc : Nat) {x y : Int64} (hd : decode B.bs pc = .ok (.lxor, 1))  (r : Go l Z a0 EL n0 kn B D Q h σ ce sl (pc + 1) Ls (.long (x ^^^ y) :: st))  : Go l Z a0 EL n0 kn B D Q h σ ce sl pc Ls (.long y :: .long x :: st) :=
  Go.step (fun T hA hx hb t q => XT.lxor hA hx rfl (Jvm.hb hb hd) rfl q) r
theorem lor (pc : Nat) {x y : Int64} (hd : decode B.bs pc = .ok (.lor, 1))  (r : Go l Z a0 EL n0 kn B D Q h σ ce sl (pc + 1) Ls (.long (x ||| y) :: st))  : Go l Z a0 EL n0 kn B D Q h σ ce sl pc Ls (.long y :: .long x :: st) :=
  Go.step (fun T hA hx hb t q => XT.lor hA hx rfl (Jvm.hb hb hd) rfl q) r
theorem lushr (pc : Nat) {x : Int64} {y : Int32} (hd : decode B.bs pc = .ok (.lushr, 1))  (r : Go l Z a0 EL n0 kn B D Q h σ ce sl (pc + 1) Ls (.long (XT.ushrL x y) :: st))  : Go l Z a0 EL n0 kn B D Q h σ ce sl pc Ls (.int y :: .long x :: st) :=
  Go.step (fun T hA hx hb t q => XT.lushr hA hx rfl (Jvm.hb hb hd) rfl q) r
theorem ldiv (pc : Nat) {x y : Int64} (hd : decode B.bs pc = .ok (.ldiv, 1)) (hy : y ≠ 0) (r : Go l Z a0 EL n0 kn B D Q h σ ce sl (pc + 1) Ls (.long (x / y) :: st))  : Go l Z a0 EL n0 kn B D Q h σ ce sl pc Ls (.long y :: .long x :: st) :=
  Go.step (fun T hA hx hb t q => XT.ldiv hA hx rfl (Jvm.hb hb hd) rfl hy q) r
theorem lrem (pc : Nat) {x y : Int64} (hd : decode B.bs pc = .ok (.lrem, 1)) (hy : y ≠ 0) (r : Go l Z a0 EL n0 kn B D Q h σ ce sl (pc + 1) Ls (.long (x - (x / y) * y) :: st))  : Go l Z a0 EL n0 kn B D Q h σ ce sl pc Ls (.long y :: .long x :: st) :=
  Go.step (fun T hA hx hb t q => XT.lrem hA hx rfl (Jvm.hb hb hd) rfl hy q) r
theorem lneg (pc : Nat) {x : Int64} (hd : decode B.bs pc = .ok (.lneg, 1))  (r : Go l Z a0 EL n0 kn B D Q h σ ce sl (pc + 1) Ls (.long (-x) :: st))  : Go l Z a0 EL n0 kn B D Q h σ ce sl pc Ls (.long x :: st) :=
  Go.step (fun T hA hx hb t q => XT.lneg hA hx rfl (Jvm.hb hb hd) rfl q) r
theorem i2l (pc : Nat) {x : Int32} (hd : decode B.bs pc = .ok (.i2l, 1))  (r : Go l Z a0 EL n0 kn B D Q h σ ce sl (pc + 1) Ls (.long x.toInt64 :: st))  : Go l Z a0 EL n0 kn B D Q h σ ce sl pc Ls (.int x :: st) :=
  Go.step (fun T hA hx hb t q => XT.i2l hA hx rfl (Jvm.hb hb hd) rfl q) r
theorem l2i (pc : Nat) {x : Int64} (hd : decode B.bs pc = .ok (.l2i, 1))  (r : Go l Z a0 EL n0 kn B D Q h σ ce sl (pc + 1) Ls (.int x.toInt32 :: st))  : Go l Z a0 EL n0 kn B D Q h σ ce sl pc Ls (.long x :: st) :=
  Go.step (fun T hA hx hb t q => XT.l2i hA hx rfl (Jvm.hb hb hd) rfl q) r
theorem i2b (pc : Nat) {x : Int32} (hd : decode B.bs pc = .ok (.i2b, 1))  (r : Go l Z a0 EL n0 kn B D Q h σ ce sl (pc + 1) Ls (.int x.toInt8.toInt32 :: st))  : Go l Z a0 EL n0 kn B D Q h σ ce sl pc Ls (.int x :: st) :=
  Go.step (fun T hA hx hb t q => XT.i2b hA hx rfl (Jvm.hb hb hd) rfl q) r
theorem i2c (pc : Nat) {x : Int32} (hd : decode B.bs pc = .ok (.i2c, 1))  (r : Go l Z a0 EL n0 kn B D Q h σ ce sl (pc + 1) Ls (.int (chr x) :: st))  : Go l Z a0 EL n0 kn B D Q h σ ce sl pc Ls (.int x :: st) :=
  Go.step (fun T hA hx hb t q => XT.i2c hA hx rfl (Jvm.hb hb hd) rfl q) r
theorem lcmp (pc : Nat) {x y : Int64} (hd : decode B.bs pc = .ok (.lcmp, 1))  (r : Go l Z a0 EL n0 kn B D Q h σ ce sl (pc + 1) Ls (.int (XT.cmpL x y) :: st))  : Go l Z a0 EL n0 kn B D Q h σ ce sl pc Ls (.long y :: .long x :: st) :=
  Go.step (fun T hA hx hb t q => XT.lcmp hA hx rfl (Jvm.hb hb hd) rfl q) r
theorem dup (pc : Nat) {v : Value} (hd : decode B.bs pc = .ok (.dup, 1))  (r : Go l Z a0 EL n0 kn B D Q h σ ce sl (pc + 1) Ls (v :: v :: st)) (hc : v.category = 1 := by rfl) : Go l Z a0 EL n0 kn B D Q h σ ce sl pc Ls (v :: st) :=
  Go.step (fun T hA hx hb t q => XS.dup hA hx rfl (Jvm.hb hb hd) rfl hc q) r
theorem dupX1 (pc : Nat) {v w : Value} (hd : decode B.bs pc = .ok (.dup_x1, 1))   (r : Go l Z a0 EL n0 kn B D Q h σ ce sl (pc + 1) Ls (v :: w :: v :: st)) (hc : v.category = 1 := by rfl) (hw : w.category = 1 := by rfl) : Go l Z a0 EL n0 kn B D Q h σ ce sl pc Ls (v :: w :: st) :=
  Go.step (fun T hA hx hb t q => XT.dupX1 hA hx rfl (Jvm.hb hb hd) rfl hc hw q) r
theorem pop (pc : Nat) {v : Value} (hd : decode B.bs pc = .ok (.pop, 1))  (r : Go l Z a0 EL n0 kn B D Q h σ ce sl (pc + 1) Ls st) (hc : v.category = 1 := by rfl) : Go l Z a0 EL n0 kn B D Q h σ ce sl pc Ls (v :: st) :=
  Go.step (fun T hA hx hb t q => XT.pop hA hx rfl (Jvm.hb hb hd) rfl hc q) r
theorem istore (pc : Nat) {k : Nat} {x : Int32} (l' : Array Slot) (hd : decode B.bs pc = .ok (.istore k, 2)) (hl : storeLocals Ls k (.int x) = some l') (r : Go l Z a0 EL n0 kn B D Q h σ ce sl (pc + 2) l' st)  : Go l Z a0 EL n0 kn B D Q h σ ce sl pc Ls (.int x :: st) :=
  Go.step (fun T hA hx hb t q => XS.istore hA hx rfl (Jvm.hb hb hd) rfl hl q) r
theorem istoreN (pc : Nat) {k : Fin 4} {x : Int32} (l' : Array Slot) (hd : decode B.bs pc = .ok (.istore_n k, 1)) (hl : storeLocals Ls k.val (.int x) = some l') (r : Go l Z a0 EL n0 kn B D Q h σ ce sl (pc + 1) l' st)  : Go l Z a0 EL n0 kn B D Q h σ ce sl pc Ls (.int x :: st) :=
  Go.step (fun T hA hx hb t q => XS.istoreN hA hx rfl (Jvm.hb hb hd) rfl hl q) r
theorem lstore (pc : Nat) {k : Nat} {x : Int64} (l' : Array Slot) (hd : decode B.bs pc = .ok (.lstore k, 2)) (hl : storeLocals Ls k (.long x) = some l') (r : Go l Z a0 EL n0 kn B D Q h σ ce sl (pc + 2) l' st)  : Go l Z a0 EL n0 kn B D Q h σ ce sl pc Ls (.long x :: st) :=
  Go.step (fun T hA hx hb t q => XT.lstore hA hx rfl (Jvm.hb hb hd) rfl hl q) r
theorem lstoreN (pc : Nat) {k : Fin 4} {x : Int64} (l' : Array Slot) (hd : decode B.bs pc = .ok (.lstore_n k, 1)) (hl : storeLocals Ls k.val (.long x) = some l') (r : Go l Z a0 EL n0 kn B D Q h σ ce sl (pc + 1) l' st)  : Go l Z a0 EL n0 kn B D Q h σ ce sl pc Ls (.long x :: st) :=
  Go.step (fun T hA hx hb t q => XT.lstoreN hA hx rfl (Jvm.hb hb hd) rfl hl q) r
theorem astore (pc : Nat) {k : Nat} {v : Value} (l' : Array Slot) (hd : decode B.bs pc = .ok (.astore k, 2)) (hl : storeLocals Ls k v = some l')  (r : Go l Z a0 EL n0 kn B D Q h σ ce sl (pc + 2) l' st) (hv : v.isRef = true := by rfl) : Go l Z a0 EL n0 kn B D Q h σ ce sl pc Ls (v :: st) :=
  Go.step (fun T hA hx hb t q => XS.astore hA hx rfl (Jvm.hb hb hd) rfl hv hl q) r
theorem astoreN (pc : Nat) {k : Fin 4} {v : Value} (l' : Array Slot) (hd : decode B.bs pc = .ok (.astore_n k, 1)) (hl : storeLocals Ls k.val v = some l')  (r : Go l Z a0 EL n0 kn B D Q h σ ce sl (pc + 1) l' st) (hv : v.isRef = true := by rfl) : Go l Z a0 EL n0 kn B D Q h σ ce sl pc Ls (v :: st) :=
  Go.step (fun T hA hx hb t q => XS.astoreN hA hx rfl (Jvm.hb hb hd) rfl hv hl q) r
theorem iinc (pc : Nat) {k : Nat} {c : Int} {x : Int32} (v : Int32) (l' : Array Slot) (hd : decode B.bs pc = .ok (.iinc k c, 3)) (hv : Int32.ofInt c = v) (hl : Ls[k]? = some (.val (.int x))) (hl' : storeLocals Ls k (.int (x + v)) = some l') (r : Go l Z a0 EL n0 kn B D Q h σ ce sl (pc + 3) l' st)  : Go l Z a0 EL n0 kn B D Q h σ ce sl pc Ls st :=
  Go.step (fun T hA hx hb t q => XT.iincV hA hx rfl v (Jvm.hb hb hd) hv hl hl' q) r
theorem goto (pc : Nat) (tgt : Nat) {o : Int} (hd : decode B.bs pc = .ok (.goto o, 3)) (ht : (pc : Int) + o = (tgt : Int)) (r : Go l Z a0 EL n0 kn B D Q h σ ce sl tgt Ls st) : Go l Z a0 EL n0 kn B D Q h σ ce sl pc Ls st :=
  Go.step (fun T hA hx hb t q => XS.goto hA hx rfl (pc0 := pc) (pc' := tgt) rfl (Jvm.hb hb hd) (by rw [ht]; exact Int.natCast_nonneg _) (by rw [ht]; rfl) q) r
theorem icmp_eq (pc : Nat) (tgt : Nat) {o : Int} {x y : Int32} (hd : decode B.bs pc = .ok (.if_icmp .eq o, 3)) (ht : (pc : Int) + o = (tgt : Int)) (yes : x = y → Go l Z a0 EL n0 kn B D Q h σ ce sl tgt Ls st) (no : ¬ (x = y) → Go l Z a0 EL n0 kn B D Q h σ ce sl (pc + 3) Ls st) : Go l Z a0 EL n0 kn B D Q h σ ce sl pc Ls (.int y :: .int x :: st) := by
  by_cases c : x = y
  · exact Go.step (fun T hA hx hb t q => XS.icmpYes hA hx rfl (pc0 := pc) (pc' := tgt) rfl (Jvm.hb hb hd) rfl (XT.ii_eq_t c) (by rw [ht]; exact Int.natCast_nonneg _) (by rw [ht]; rfl) q) (yes c)
  · exact Go.step (fun T hA hx hb t q => XS.icmpNo hA hx rfl (Jvm.hb hb hd) rfl (XT.ii_eq_f c) q) (no c)
theorem icmp_ne (pc : Nat) (tgt : Nat) {o : Int} {x y : Int32} (hd : decode B.bs pc = .ok (.if_icmp .ne o, 3)) (ht : (pc : Int) + o = (tgt : Int)) (yes : ¬ (x = y) → Go l Z a0 EL n0 kn B D Q h σ ce sl tgt Ls st) (no : x = y → Go l Z a0 EL n0 kn B D Q h σ ce sl (pc + 3) Ls st) : Go l Z a0 EL n0 kn B D Q h σ ce sl pc Ls (.int y :: .int x :: st) := by
  by_cases c : x = y
  · exact Go.step (fun T hA hx hb t q => XS.icmpNo hA hx rfl (Jvm.hb hb hd) rfl (XT.ii_ne_f c) q) (no c)
  · exact Go.step (fun T hA hx hb t q => XS.icmpYes hA hx rfl (pc0 := pc) (pc' := tgt) rfl (Jvm.hb hb hd) rfl (XT.ii_ne_t c) (by rw [ht]; exact Int.natCast_nonneg _) (by rw [ht]; rfl) q) (yes c)
theorem icmp_lt (pc : Nat) (tgt : Nat) {o : Int} {x y : Int32} (hd : decode B.bs pc = .ok (.if_icmp .lt o, 3)) (ht : (pc : Int) + o = (tgt : Int)) (yes : x < y → Go l Z a0 EL n0 kn B D Q h σ ce sl tgt Ls st) (no : ¬ (x < y) → Go l Z a0 EL n0 kn B D Q h σ ce sl (pc + 3) Ls st) : Go l Z a0 EL n0 kn B D Q h σ ce sl pc Ls (.int y :: .int x :: st) := by
  by_cases c : x < y
  · exact Go.step (fun T hA hx hb t q => XS.icmpYes hA hx rfl (pc0 := pc) (pc' := tgt) rfl (Jvm.hb hb hd) rfl (XT.ii_lt_t c) (by rw [ht]; exact Int.natCast_nonneg _) (by rw [ht]; rfl) q) (yes c)
  · exact Go.step (fun T hA hx hb t q => XS.icmpNo hA hx rfl (Jvm.hb hb hd) rfl (XT.ii_lt_f c) q) (no c)
theorem icmp_ge (pc : Nat) (tgt : Nat) {o : Int} {x y : Int32} (hd : decode B.bs pc = .ok (.if_icmp .ge o, 3)) (ht : (pc : Int) + o = (tgt : Int)) (yes : ¬ (x < y) → Go l Z a0 EL n0 kn B D Q h σ ce sl tgt Ls st) (no : x < y → Go l Z a0 EL n0 kn B D Q h σ ce sl (pc + 3) Ls st) : Go l Z a0 EL n0 kn B D Q h σ ce sl pc Ls (.int y :: .int x :: st) := by
  by_cases c : x < y
  · exact Go.step (fun T hA hx hb t q => XS.icmpNo hA hx rfl (Jvm.hb hb hd) rfl (XT.ii_ge_f c) q) (no c)
  · exact Go.step (fun T hA hx hb t q => XS.icmpYes hA hx rfl (pc0 := pc) (pc' := tgt) rfl (Jvm.hb hb hd) rfl (XT.ii_ge_t c) (by rw [ht]; exact Int.natCast_nonneg _) (by rw [ht]; rfl) q) (yes c)
theorem icmp_gt (pc : Nat) (tgt : Nat) {o : Int} {x y : Int32} (hd : decode B.bs pc = .ok (.if_icmp .gt o, 3)) (ht : (pc : Int) + o = (tgt : Int)) (yes : y < x → Go l Z a0 EL n0 kn B D Q h σ ce sl tgt Ls st) (no : ¬ (y < x) → Go l Z a0 EL n0 kn B D Q h σ ce sl (pc + 3) Ls st) : Go l Z a0 EL n0 kn B D Q h σ ce sl pc Ls (.int y :: .int x :: st) := by
  by_cases c : y < x
  · exact Go.step (fun T hA hx hb t q => XS.icmpYes hA hx rfl (pc0 := pc) (pc' := tgt) rfl (Jvm.hb hb hd) rfl (XT.ii_gt_t c) (by rw [ht]; exact Int.natCast_nonneg _) (by rw [ht]; rfl) q) (yes c)
  · exact Go.step (fun T hA hx hb t q => XS.icmpNo hA hx rfl (Jvm.hb hb hd) rfl (XT.ii_gt_f c) q) (no c)
theorem icmp_le (pc : Nat) (tgt : Nat) {o : Int} {x y : Int32} (hd : decode B.bs pc = .ok (.if_icmp .le o, 3)) (ht : (pc : Int) + o = (tgt : Int)) (yes : ¬ (y < x) → Go l Z a0 EL n0 kn B D Q h σ ce sl tgt Ls st) (no : y < x → Go l Z a0 EL n0 kn B D Q h σ ce sl (pc + 3) Ls st) : Go l Z a0 EL n0 kn B D Q h σ ce sl pc Ls (.int y :: .int x :: st) := by
  by_cases c : y < x
  · exact Go.step (fun T hA hx hb t q => XS.icmpNo hA hx rfl (Jvm.hb hb hd) rfl (XT.ii_le_f c) q) (no c)
  · exact Go.step (fun T hA hx hb t q => XS.icmpYes hA hx rfl (pc0 := pc) (pc' := tgt) rfl (Jvm.hb hb hd) rfl (XT.ii_le_t c) (by rw [ht]; exact Int.natCast_nonneg _) (by rw [ht]; rfl) q) (yes c)
theorem if_eq (pc : Nat) (tgt : Nat) {o : Int} {x : Int32} (hd : decode B.bs pc = .ok (.ifCond .eq o, 3)) (ht : (pc : Int) + o = (tgt : Int)) (yes : x = 0 → Go l Z a0 EL n0 kn B D Q h σ ce sl tgt Ls st) (no : ¬ (x = 0) → Go l Z a0 EL n0 kn B D Q h σ ce sl (pc + 3) Ls st) : Go l Z a0 EL n0 kn B D Q h σ ce sl pc Ls (.int x :: st) := by
  by_cases c : x = 0
  · exact Go.step (fun T hA hx hb t q => XS.ifYes hA hx rfl (pc0 := pc) (pc' := tgt) rfl (Jvm.hb hb hd) rfl (XT.i0_eq_t c) (by rw [ht]; exact Int.natCast_nonneg _) (by rw [ht]; rfl) q) (yes c)
  · exact Go.step (fun T hA hx hb t q => XS.ifNo hA hx rfl (Jvm.hb hb hd) rfl (XT.i0_eq_f c) q) (no c)
theorem if_ne (pc : Nat) (tgt : Nat) {o : Int} {x : Int32} (hd : decode B.bs pc = .ok (.ifCond .ne o, 3)) (ht : (pc : Int) + o = (tgt : Int)) (yes : ¬ (x = 0) → Go l Z a0 EL n0 kn B D Q h σ ce sl tgt Ls st) (no : x = 0 → Go l Z a0 EL n0 kn B D Q h σ ce sl (pc + 3) Ls st) : Go l Z a0 EL n0 kn B D Q h σ ce sl pc Ls (.int x :: st) := by
  by_cases c : x = 0
  · exact Go.step (fun T hA hx hb t q => XS.ifNo hA hx rfl (Jvm.hb hb hd) rfl (XT.i0_ne_f c) q) (no c)
  · exact Go.step (fun T hA hx hb t q => XS.ifYes hA hx rfl (pc0 := pc) (pc' := tgt) rfl (Jvm.hb hb hd) rfl (XT.i0_ne_t c) (by rw [ht]; exact Int.natCast_nonneg _) (by rw [ht]; rfl) q) (yes c)
theorem if_lt (pc : Nat) (tgt : Nat) {o : Int} {x : Int32} (hd : decode B.bs pc = .ok (.ifCond .lt o, 3)) (ht : (pc : Int) + o = (tgt : Int)) (yes : x < 0 → Go l Z a0 EL n0 kn B D Q h σ ce sl tgt Ls st) (no : ¬ (x < 0) → Go l Z a0 EL n0 kn B D Q h σ ce sl (pc + 3) Ls st) : Go l Z a0 EL n0 kn B D Q h σ ce sl pc Ls (.int x :: st) := by
  by_cases c : x < 0
  · exact Go.step (fun T hA hx hb t q => XS.ifYes hA hx rfl (pc0 := pc) (pc' := tgt) rfl (Jvm.hb hb hd) rfl (XT.i0_lt_t c) (by rw [ht]; exact Int.natCast_nonneg _) (by rw [ht]; rfl) q) (yes c)
  · exact Go.step (fun T hA hx hb t q => XS.ifNo hA hx rfl (Jvm.hb hb hd) rfl (XT.i0_lt_f c) q) (no c)
theorem if_ge (pc : Nat) (tgt : Nat) {o : Int} {x : Int32} (hd : decode B.bs pc = .ok (.ifCond .ge o, 3)) (ht : (pc : Int) + o = (tgt : Int)) (yes : ¬ (x < 0) → Go l Z a0 EL n0 kn B D Q h σ ce sl tgt Ls st) (no : x < 0 → Go l Z a0 EL n0 kn B D Q h σ ce sl (pc + 3) Ls st) : Go l Z a0 EL n0 kn B D Q h σ ce sl pc Ls (.int x :: st) := by
  by_cases c : x < 0
  · exact Go.step (fun T hA hx hb t q => XS.ifNo hA hx rfl (Jvm.hb hb hd) rfl (XT.i0_ge_f c) q) (no c)
  · exact Go.step (fun T hA hx hb t q => XS.ifYes hA hx rfl (pc0 := pc) (pc' := tgt) rfl (Jvm.hb hb hd) rfl (XT.i0_ge_t c) (by rw [ht]; exact Int.natCast_nonneg _) (by rw [ht]; rfl) q) (yes c)
theorem if_gt (pc : Nat) (tgt : Nat) {o : Int} {x : Int32} (hd : decode B.bs pc = .ok (.ifCond .gt o, 3)) (ht : (pc : Int) + o = (tgt : Int)) (yes : 0 < x → Go l Z a0 EL n0 kn B D Q h σ ce sl tgt Ls st) (no : ¬ (0 < x) → Go l Z a0 EL n0 kn B D Q h σ ce sl (pc + 3) Ls st) : Go l Z a0 EL n0 kn B D Q h σ ce sl pc Ls (.int x :: st) := by
  by_cases c : 0 < x
  · exact Go.step (fun T hA hx hb t q => XS.ifYes hA hx rfl (pc0 := pc) (pc' := tgt) rfl (Jvm.hb hb hd) rfl (XT.i0_gt_t c) (by rw [ht]; exact Int.natCast_nonneg _) (by rw [ht]; rfl) q) (yes c)
  · exact Go.step (fun T hA hx hb t q => XS.ifNo hA hx rfl (Jvm.hb hb hd) rfl (XT.i0_gt_f c) q) (no c)
theorem if_le (pc : Nat) (tgt : Nat) {o : Int} {x : Int32} (hd : decode B.bs pc = .ok (.ifCond .le o, 3)) (ht : (pc : Int) + o = (tgt : Int)) (yes : ¬ (0 < x) → Go l Z a0 EL n0 kn B D Q h σ ce sl tgt Ls st) (no : 0 < x → Go l Z a0 EL n0 kn B D Q h σ ce sl (pc + 3) Ls st) : Go l Z a0 EL n0 kn B D Q h σ ce sl pc Ls (.int x :: st) := by
  by_cases c : 0 < x
  · exact Go.step (fun T hA hx hb t q => XS.ifNo hA hx rfl (Jvm.hb hb hd) rfl (XT.i0_le_f c) q) (no c)
  · exact Go.step (fun T hA hx hb t q => XS.ifYes hA hx rfl (pc0 := pc) (pc' := tgt) rfl (Jvm.hb hb hd) rfl (XT.i0_le_t c) (by rw [ht]; exact Int.natCast_nonneg _) (by rw [ht]; rfl) q) (yes c)
theorem ifl_eq (pc : Nat) (tgt : Nat) {o : Int} {x y : Int64} (hd : decode B.bs pc = .ok (.ifCond .eq o, 3)) (ht : (pc : Int) + o = (tgt : Int)) (yes : x = y → Go l Z a0 EL n0 kn B D Q h σ ce sl tgt Ls st) (no : ¬ (x = y) → Go l Z a0 EL n0 kn B D Q h σ ce sl (pc + 3) Ls st) : Go l Z a0 EL n0 kn B D Q h σ ce sl pc Ls (.int (XT.cmpL x y) :: st) := by
  by_cases c : x = y
  · exact Go.step (fun T hA hx hb t q => XS.ifYes hA hx rfl (pc0 := pc) (pc' := tgt) rfl (Jvm.hb hb hd) rfl (XT.ll_eq_t c) (by rw [ht]; exact Int.natCast_nonneg _) (by rw [ht]; rfl) q) (yes c)
  · exact Go.step (fun T hA hx hb t q => XS.ifNo hA hx rfl (Jvm.hb hb hd) rfl (XT.ll_eq_f c) q) (no c)
theorem ifl_ne (pc : Nat) (tgt : Nat) {o : Int} {x y : Int64} (hd : decode B.bs pc = .ok (.ifCond .ne o, 3)) (ht : (pc : Int) + o = (tgt : Int)) (yes : ¬ (x = y) → Go l Z a0 EL n0 kn B D Q h σ ce sl tgt Ls st) (no : x = y → Go l Z a0 EL n0 kn B D Q h σ ce sl (pc + 3) Ls st) : Go l Z a0 EL n0 kn B D Q h σ ce sl pc Ls (.int (XT.cmpL x y) :: st) := by
  by_cases c : x = y
  · exact Go.step (fun T hA hx hb t q => XS.ifNo hA hx rfl (Jvm.hb hb hd) rfl (XT.ll_ne_f c) q) (no c)
  · exact Go.step (fun T hA hx hb t q => XS.ifYes hA hx rfl (pc0 := pc) (pc' := tgt) rfl (Jvm.hb hb hd) rfl (XT.ll_ne_t c) (by rw [ht]; exact Int.natCast_nonneg _) (by rw [ht]; rfl) q) (yes c)
theorem ifl_lt (pc : Nat) (tgt : Nat) {o : Int} {x y : Int64} (hd : decode B.bs pc = .ok (.ifCond .lt o, 3)) (ht : (pc : Int) + o = (tgt : Int)) (yes : x < y → Go l Z a0 EL n0 kn B D Q h σ ce sl tgt Ls st) (no : ¬ (x < y) → Go l Z a0 EL n0 kn B D Q h σ ce sl (pc + 3) Ls st) : Go l Z a0 EL n0 kn B D Q h σ ce sl pc Ls (.int (XT.cmpL x y) :: st) := by
  by_cases c : x < y
  · exact Go.step (fun T hA hx hb t q => XS.ifYes hA hx rfl (pc0 := pc) (pc' := tgt) rfl (Jvm.hb hb hd) rfl (XT.ll_lt_t c) (by rw [ht]; exact Int.natCast_nonneg _) (by rw [ht]; rfl) q) (yes c)
  · exact Go.step (fun T hA hx hb t q => XS.ifNo hA hx rfl (Jvm.hb hb hd) rfl (XT.ll_lt_f c) q) (no c)
theorem ifl_ge (pc : Nat) (tgt : Nat) {o : Int} {x y : Int64} (hd : decode B.bs pc = .ok (.ifCond .ge o, 3)) (ht : (pc : Int) + o = (tgt : Int)) (yes : ¬ (x < y) → Go l Z a0 EL n0 kn B D Q h σ ce sl tgt Ls st) (no : x < y → Go l Z a0 EL n0 kn B D Q h σ ce sl (pc + 3) Ls st) : Go l Z a0 EL n0 kn B D Q h σ ce sl pc Ls (.int (XT.cmpL x y) :: st) := by
  by_cases c : x < y
  · exact Go.step (fun T hA hx hb t q => XS.ifNo hA hx rfl (Jvm.hb hb hd) rfl (XT.ll_ge_f c) q) (no c)
  · exact Go.step (fun T hA hx hb t q => XS.ifYes hA hx rfl (pc0 := pc) (pc' := tgt) rfl (Jvm.hb hb hd) rfl (XT.ll_ge_t c) (by rw [ht]; exact Int.natCast_nonneg _) (by rw [ht]; rfl) q) (yes c)
theorem ifl_gt (pc : Nat) (tgt : Nat) {o : Int} {x y : Int64} (hd : decode B.bs pc = .ok (.ifCond .gt o, 3)) (ht : (pc : Int) + o = (tgt : Int)) (yes : y < x → Go l Z a0 EL n0 kn B D Q h σ ce sl tgt Ls st) (no : ¬ (y < x) → Go l Z a0 EL n0 kn B D Q h σ ce sl (pc + 3) Ls st) : Go l Z a0 EL n0 kn B D Q h σ ce sl pc Ls (.int (XT.cmpL x y) :: st) := by
  by_cases c : y < x
  · exact Go.step (fun T hA hx hb t q => XS.ifYes hA hx rfl (pc0 := pc) (pc' := tgt) rfl (Jvm.hb hb hd) rfl (XT.ll_gt_t c) (by rw [ht]; exact Int.natCast_nonneg _) (by rw [ht]; rfl) q) (yes c)
  · exact Go.step (fun T hA hx hb t q => XS.ifNo hA hx rfl (Jvm.hb hb hd) rfl (XT.ll_gt_f c) q) (no c)
theorem ifl_le (pc : Nat) (tgt : Nat) {o : Int} {x y : Int64} (hd : decode B.bs pc = .ok (.ifCond .le o, 3)) (ht : (pc : Int) + o = (tgt : Int)) (yes : ¬ (y < x) → Go l Z a0 EL n0 kn B D Q h σ ce sl tgt Ls st) (no : y < x → Go l Z a0 EL n0 kn B D Q h σ ce sl (pc + 3) Ls st) : Go l Z a0 EL n0 kn B D Q h σ ce sl pc Ls (.int (XT.cmpL x y) :: st) := by
  by_cases c : y < x
  · exact Go.step (fun T hA hx hb t q => XS.ifNo hA hx rfl (Jvm.hb hb hd) rfl (XT.ll_le_f c) q) (no c)
  · exact Go.step (fun T hA hx hb t q => XS.ifYes hA hx rfl (pc0 := pc) (pc' := tgt) rfl (Jvm.hb hb hd) rfl (XT.ll_le_t c) (by rw [ht]; exact Int.natCast_nonneg _) (by rw [ht]; rfl) q) (yes c)
theorem ifnull (pc : Nat) (tgt : Nat) {o : Int} {v : Value} (hr : v.isRef = true) (hd : decode B.bs pc = .ok (.ifnull o, 3)) (ht : (pc : Int) + o = (tgt : Int)) (yes : v = .null → Go l Z a0 EL n0 kn B D Q h σ ce sl tgt Ls st) (no : ¬ (v = .null) → Go l Z a0 EL n0 kn B D Q h σ ce sl (pc + 3) Ls st) : Go l Z a0 EL n0 kn B D Q h σ ce sl pc Ls (v :: st) := by
  by_cases c : v = .null
  · exact Go.step (fun T hA hx hb t q => XT.nullYes hA hx rfl (pc0 := pc) (pc' := tgt) rfl (Jvm.hb hb hd) rfl c (by rw [ht]; exact Int.natCast_nonneg _) (by rw [ht]; rfl) q) (yes c)
  · exact Go.step (fun T hA hx hb t q => XT.nullNo hA hx rfl (Jvm.hb hb hd) rfl hr c q) (no c)
theorem ifnonnull (pc : Nat) (tgt : Nat) {o : Int} {v : Value} (hr : v.isRef = true) (hd : decode B.bs pc = .ok (.ifnonnull o, 3)) (ht : (pc : Int) + o = (tgt : Int)) (yes : ¬ (v = .null) → Go l Z a0 EL n0 kn B D Q h σ ce sl tgt Ls st) (no : v = .null → Go l Z a0 EL n0 kn B D Q h σ ce sl (pc + 3) Ls st) : Go l Z a0 EL n0 kn B D Q h σ ce sl pc Ls (v :: st) := by
  by_cases c : v = .null
  · exact Go.step (fun T hA hx hb t q => XT.nonnullNo hA hx rfl (Jvm.hb hb hd) rfl c q) (no c)
  · exact Go.step (fun T hA hx hb t q => XT.nonnullYes hA hx rfl (pc0 := pc) (pc' := tgt) rfl (Jvm.hb hb hd) rfl hr c (by rw [ht]; exact Int.natCast_nonneg _) (by rw [ht]; rfl) q) (yes c)
theorem acmp_eq (pc : Nat) (tgt : Nat) {o : Int} {v w : Value} (hv : v.isRef = true) (hw : w.isRef = true) (hd : decode B.bs pc = .ok (.if_acmp .eq o, 3)) (ht : (pc : Int) + o = (tgt : Int)) (yes : v = w → Go l Z a0 EL n0 kn B D Q h σ ce sl tgt Ls st) (no : ¬ (v = w) → Go l Z a0 EL n0 kn B D Q h σ ce sl (pc + 3) Ls st) : Go l Z a0 EL n0 kn B D Q h σ ce sl pc Ls (w :: v :: st) := by
  by_cases c : v = w
  · exact Go.step (fun T hA hx hb t q => XT.acmpYes hA hx rfl (pc0 := pc) (pc' := tgt) rfl (Jvm.hb hb hd) rfl hv hw (XT.aa_eq_t c) (by rw [ht]; exact Int.natCast_nonneg _) (by rw [ht]; rfl) q) (yes c)
  · exact Go.step (fun T hA hx hb t q => XT.acmpNo hA hx rfl (Jvm.hb hb hd) rfl hv hw (XT.aa_eq_f c) q) (no c)
theorem acmp_ne (pc : Nat) (tgt : Nat) {o : Int} {v w : Value} (hv : v.isRef = true) (hw : w.isRef = true) (hd : decode B.bs pc = .ok (.if_acmp .ne o, 3)) (ht : (pc : Int) + o = (tgt : Int)) (yes : ¬ (v = w) → Go l Z a0 EL n0 kn B D Q h σ ce sl tgt Ls st) (no : v = w → Go l Z a0 EL n0 kn B D Q h σ ce sl (pc + 3) Ls st) : Go l Z a0 EL n0 kn B D Q h σ ce sl pc Ls (w :: v :: st) := by
  by_cases c : v = w
  · exact Go.step (fun T hA hx hb t q => XT.acmpNo hA hx rfl (Jvm.hb hb hd) rfl hv hw (XT.aa_ne_f c) q) (no c)
  · exact Go.step (fun T hA hx hb t q => XT.acmpYes hA hx rfl (pc0 := pc) (pc' := tgt) rfl (Jvm.hb hb hd) rfl hv hw (XT.aa_ne_t c) (by rw [ht]; exact Int.natCast_nonneg _) (by rw [ht]; rfl) q) (yes c)
end Plain
end Jvm.Road
namespace Jvm.Road
open Jvm Jvm.ClassFile Sem Op Lib Jvm.Free Jvm.Stand Jvm.LawKit Jvm.RoadKit Bundle
section Facts
variable {Z : State} {h h' : Heap} {a b : Addr} {ty : FieldType} {vs : List Value} {ws : List Addr}
/-- the array at a holds just these values -/
def Ary (Z : State) (h : Heap) (a : Addr) (ty : FieldType) (vs : List Value) : Prop := ∃ c : Cell, Arr Z h a c ty ∧ c.slots.toList = vs ∧ vs.length < 2147483648 ∧ ∀ v ∈ vs, fits ty v = true
theorem Ary.keep (F : Ary Z h a ty vs) (K : Keep h h' ws) (q : a ∉ ws) : Ary Z h' a ty vs := by
  obtain ⟨c, A, r⟩ := F; exact ⟨c, ⟨K.2.1 a c A.1 q, A.2⟩, r⟩
theorem Ary.lt (F : Ary Z h a ty vs) : a < h.size := by obtain ⟨c, A, -⟩ := F; exact A.lt
theorem Ary.small (F : Ary Z h a ty vs) : vs.length < 2147483648 := by obtain ⟨c, A, -, q, -⟩ := F; exact q
theorem Ary.fit (F : Ary Z h a ty vs) : ∀ v ∈ vs, fits ty v = true := by obtain ⟨c, A, -, -, q⟩ := F; exact q
theorem Ary.wr {i : Nat} {v : Value} (F : Ary Z h a ty vs) (W : Wr h h' a i v) (hv : fits ty v = true) : Ary Z h' a ty (vs.set i v) := by
  obtain ⟨c, A, e, q, f⟩ := F
  refine ⟨_, Arr.same W A, ?_, by rw [List.length_set]; exact q, fun u hu => ?_⟩
  · show (c.slots.setIfInBounds i v).toList = _
    rw [Array.toList_setIfInBounds, e]
  · rcases List.mem_or_eq_of_mem_set hu with r | r
    · exact f u r
    · exact r ▸ hv
theorem ix_of {j : Int32} {i : Nat} (hj : j.toInt = (i : Int)) : ¬ j < 0 ∧ j.toNatClampNeg = i := by
  refine ⟨?_, ?_⟩
  · simp only [Int32.lt_iff_toInt_lt, hj, Int32.reduceToInt]; omega
  · simp only [Int32.toNatClampNeg, hj]; omega
theorem Ary.inb {c : Cell} {j : Int32} {i : Nat} (e : c.slots.toList = vs) (hj : j.toInt = (i : Int)) (hi : i < vs.length) : ¬ (j < 0 ∨ c.slots.size ≤ j.toNatClampNeg) := by
  obtain ⟨q1, q2⟩ := ix_of hj
  rw [q2, ← Array.length_toList, e]
  intro q; rcases q with q | q
  · exact q1 q
  · omega
theorem Ary.of_arv {k : ClassId} {z : Int32} {d : Value} (F : Arv Z h a k ty z vs d) (hz : z.toNatClampNeg = vs.length) : Ary Z h a ty vs := by
  obtain ⟨c, A, -, S, hn, H, G⟩ := F
  have hsz : c.slots.size = vs.length := S.trans hz
  have e : c.slots.toList = vs := by
    apply List.ext_getElem?
    intro i
    by_cases hi : i < vs.length
    · have := H i (by rw [hsz]; exact hi)
      rw [Array.getElem?_toList, this, List.getD_eq_getElem?_getD, List.getElem?_eq_getElem hi]; rfl
    · rw [List.getElem?_eq_none (Nat.le_of_not_lt hi), List.getElem?_eq_none (by rw [Array.length_toList, hsz]; exact Nat.le_of_not_lt hi)]
  refine ⟨c, A, e, by have := Int32.toInt_lt z; simp only [Int32.toNatClampNeg] at hz; omega, fun v hv => ?_⟩
  obtain ⟨i, hi, rfl⟩ := List.getElem_of_mem hv
  have := G i (by rw [hsz]; exact hi)
  rwa [List.getD_eq_getElem?_getD, List.getElem?_eq_getElem hi] at this
def byt (c : Int32) : Value := .int c.toInt8.toInt32
abbrev SN : String := "java/lang/String"
/-- the object at a is a compact String of these chars, its bytes at b -/
def Str (Z : State) (h : Heap) (a b : Addr) (cs : List Int32) : Prop := Exa Z h a SN ∧ Fld Z h a SN "coder" "B" (.int 0) ∧ Fld Z h a SN "value" "[B" (.ref b) ∧ Ary Z h b .byte (cs.map byt) ∧ ∀ c ∈ cs, 0 ≤ c.toInt ∧ c.toInt < 256
theorem Str.keep {cs : List Int32} (F : Str Z h a b cs) (K : Keep h h' ws) (q : a ∉ ws) (q' : b ∉ ws) : Str Z h' a b cs := ⟨F.1.keep K, F.2.1.keep K q, F.2.2.1.keep K q, F.2.2.2.1.keep K q', F.2.2.2.2⟩
theorem Str.lt {cs : List Int32} (F : Str Z h a b cs) : a < h.size := F.1.lt
theorem Str.ltb {cs : List Int32} (F : Str Z h a b cs) : b < h.size := F.2.2.2.1.lt
theorem keep_ext (E : Ext h h') : Keep h h' [] := (Keep.refl h []).ext E
end Facts
section Heap
variable {l : Launch} {Z : State} {a0 : Array Value} {EL : List (String × Nat)} {n0 : Nat} {kn : Bool} {B : Bdy} {D : Dyn} {Q : Post} {h : Heap} {σ : Addr → Prop} {ce sl : Nat} {Ls : Array Slot} {st : List Value} {a : Addr}
theorem getfield (pc : Nat) {ix : Nat} {R0 O n d : String} {v : Value} (hd : decode B.bs pc = .ok (.getfield ix, 3)) (w : (Jvm.Cond.fieldLink B.y.cls ix R0 n d).before a0 Z = true) (via : Via Z R0 O n d) (F : Fld Z h a O n d v)
    (r : Go l Z a0 EL n0 kn B D Q h σ ce sl (pc + 3) Ls (v :: st)) : Go l Z a0 EL n0 kn B D Q h σ ce sl pc Ls (.ref a :: st) := by
  intro ok ew T vm0 I
  obtain ⟨k0, locs, X, h1, h2, h3, h4, h5, h6, h7, h8, h9, h10⟩ := I
  obtain ⟨T', X', e', s'⟩ := getF X ok.1 (s := D.s.setVm vm0) h4 h5 (host := "") (Or.inl w) via h1 F (g := mkF D.m pc Ls (.ref a :: st)) rfl rfl (Jvm.hb ok.2.1 hd)
  obtain ⟨s2, o, q, rest⟩ := r ok ew T' vm0 ⟨k0, locs, X', e', h2, h3, h4, h5, h6, h7, h8, h9, h10⟩
  exact ⟨s2, o, s' _ q, rest⟩
theorem own_wr {vm0 : Vm} {h' : Heap} {i : Nat} {v : Value} (W : Wr h h' a i v) (hC : CHv Z EL vm0 h) (ha : OwnR Z EL n0 vm0 h a) {x : Addr} (hx : Own Z EL n0 vm0 h x) : Own Z EL n0 vm0 h' x :=
  hx.imp (fun hx => ⟨Safe.wr W ha.1 hC hx.1, hx.2.1, by rw [W.size]; exact hx.2.2⟩) id
/-- behind a write of one place -/
theorem wrote {pc pc' : Nat} {Ls' : Array Slot} {st' : List Value} {i : Nat} {v : Value} (hσ : σ a)
    (s : ∀ T vm0 locs, Stand D.p l D.e B.rm (D.s.setVm vm0) D.m D.args D.bl D.meth D.c T locs ce sl → T.heap = h → Z.Warmed39 vm0 → vm0.findClass B.y.cls = some D.m.cls → Ok B D →
      ∃ T' h', Stand D.p l D.e B.rm (D.s.setVm vm0) D.m D.args D.bl D.meth D.c T' (locs ++ [⟨a, i⟩]) ce sl ∧ T'.heap = h' ∧ Wr h h' a i v ∧ ∀ target, Steps D.p.tables D.e D.bl (T'.setTop (mkF D.m pc' Ls' st')) target → Steps D.p.tables D.e D.bl (T.setTop (mkF D.m pc Ls st)) target)
    (r : ∀ h', Wr h h' a i v → Keep h h' [a] → Go l Z a0 EL n0 kn B D Q h' σ ce sl pc' Ls' st') : Go l Z a0 EL n0 kn B D Q h σ ce sl pc Ls st := by
  intro ok ew T vm0 I
  obtain ⟨k0, locs, X, h1, h2, h3, h4, h5, h6, h7, h8, h9, h10⟩ := I
  obtain ⟨T', h', X', e', W, s'⟩ := s T vm0 locs X h1 h4 h5 ok
  have ha := (h9 a hσ).real (by obtain ⟨c, q, -⟩ := W; exact (Array.getElem?_eq_some_iff.mp q).1) (h1 ▸ bound X h10.2)
  obtain ⟨s2, o, q, rest⟩ := r h' W (Keep.of_wr W) ok ew T' vm0 ⟨k0, _, X', e', h2, by rw [W.size]; exact h3, h4, h5, h6.trans (CHr.wr W ha.1 h6.1), h7.app fun y hy => by cases List.mem_singleton.mp hy; exact ha.2.1, h8.wr W ha.2.1, fun x hx => own_wr W h6.1 ha (h9 x hx), h10⟩
  exact ⟨s2, o, s' _ q, rest⟩
theorem putfield (pc : Nat) {ix : Nat} {R0 O n d C : String} {kk : Nat} {ty : FieldType} {v old : Value} (hd : decode B.bs pc = .ok (.putfield ix, 3)) (w : (Jvm.Cond.fieldLink B.y.cls ix R0 n d).before a0 Z = true) (via : Via Z R0 O n d) (F : Fld Z h a O n d old) (E : Exa Z h a C)
    (L : (Jvm.Cond.lays C O n d).before a0 Z = true ∨ ((Jvm.Cond.laysFinal C O n d).before a0 Z = true ∧ B.y.cls = O ∧ B.y.name = "<init>")) (wi : (Jvm.Cond.instantiable C kk).before a0 Z = true) (hty : parseFieldDescriptor d = some ty) (hn : narrow ty v = v) (hf : fits ty v = true) (hσ : σ a)
    (r : ∀ h', Wr h h' a (RoadKit.slotOf Z O n d) v → Keep h h' [a] → Go l Z a0 EL n0 kn B D Q h' σ ce sl (pc + 3) Ls st) : Go l Z a0 EL n0 kn B D Q h σ ce sl pc Ls (v :: .ref a :: st) :=
  wrote hσ (fun T vm0 locs X h1 h4 h5 ok => putF X ok.1 (s := D.s.setVm vm0) h4 h5 (host := "") (Or.inl w) via h1 F E (L.imp id fun q => ⟨q.1, q.2.1, ok.2.2.2.2.2.trans q.2.2⟩) wi hty hn hf (g := mkF D.m pc Ls (v :: .ref a :: st)) rfl rfl (Jvm.hb ok.2.1 hd)) r
theorem getstatic (pc : Nat) {ix : Nat} {R0 O n d : String} {v : Value} (hd : decode B.bs pc = .ok (.getstatic ix, 3)) (w : (Jvm.Cond.fieldLink B.y.cls ix R0 n d).before a0 Z = true) (via : Via Z R0 O n d) (F : Sta Z Z.heap O n d v)
    (r : Go l Z a0 EL n0 kn B D Q h σ ce sl (pc + 3) Ls (v :: st)) : Go l Z a0 EL n0 kn B D Q h σ ce sl pc Ls st := by
  intro ok ew T vm0 I
  obtain ⟨k0, locs, X, h1, h2, h3, h4, h5, h6, h7, h8, h9, h10⟩ := I
  obtain ⟨T', X', e', s'⟩ := getS X ok.1 (s := D.s.setVm vm0) h4 h5 (host := "") w via h1 (F.ext h8.2) (g := mkF D.m pc Ls st) rfl (Jvm.hb ok.2.1 hd)
  obtain ⟨s2, o, q, rest⟩ := r ok ew T' vm0 ⟨k0, locs, X', e', h2, h3, h4, h5, h6, h7, h8, h9, h10⟩
  exact ⟨s2, o, s' _ q, rest⟩
theorem own_new {vm0 : Vm} {h' : Heap} (E : Ext h h') (hC : CHv Z EL vm0 h) (hO : Old Z n0 h) (hlt : h.size < h'.size) : Own Z EL n0 vm0 h' h.size :=
  Or.inl ⟨(Safe.new (Nat.le_refl _)).ext E hC, hO.1 ▸ hO.2.1, hlt⟩
/-- behind the making of one cell -/
theorem made {pc pc' ce' sl' : Nat} {Ls' : Array Slot} {st' : List Value} {P : Heap → Prop} (hcm : ce' ≤ B.rm.cells)
    (s : ∀ T vm0 locs, Stand D.p l D.e B.rm (D.s.setVm vm0) D.m D.args D.bl D.meth D.c T locs ce sl → T.heap = h → Z.Warmed39 vm0 → vm0.findClass B.y.cls = some D.m.cls → Ok B D →
      ∃ T' h', Stand D.p l D.e B.rm (D.s.setVm vm0) D.m D.args D.bl D.meth D.c T' locs ce' sl' ∧ T'.heap = h' ∧ Ext h h' ∧ h.size < h'.size ∧ P h' ∧ ∀ target, Steps D.p.tables D.e D.bl (T'.setTop (mkF D.m pc' Ls' st')) target → Steps D.p.tables D.e D.bl (T.setTop (mkF D.m pc Ls st)) target)
    (r : ∀ h' σ', Keep h h' [] → h.size < h'.size → (∀ x, σ x → σ' x) → σ' h.size → P h' → Go l Z a0 EL n0 kn B D Q h' σ' ce' sl' pc' Ls' st') : Go l Z a0 EL n0 kn B D Q h σ ce sl pc Ls st := by
  intro ok ew T vm0 I
  obtain ⟨k0, locs, X, h1, h2, h3, h4, h5, h6, h7, h8, h9, h10⟩ := I
  obtain ⟨T', h', X', e', E, hlt, hP, s'⟩ := s T vm0 locs X h1 h4 h5 ok
  obtain ⟨s2, o, q, rest⟩ := r h' (Own Z EL n0 vm0 h') (keep_ext E) hlt (fun x hx => (h9 x hx).imp (fun q => ⟨q.1.ext E h6.1, q.2.1, Nat.lt_of_lt_of_le q.2.2 E.1⟩) id) (own_new E h6.1 h8 hlt) hP ok ew T' vm0
    ⟨k0, locs, X', e', h2, Nat.le_trans h3 E.1, h4, h5, h6.trans (CHr.ext E h6.1), h7, h8.ext E, fun x hx => hx, h10.1, hcm, h10.2.2⟩
  exact ⟨s2, o, s' _ q, rest⟩
theorem new (pc : Nat) {ix : Nat} (C : String) {n : Nat} (hd : decode B.bs pc = .ok (.new ix, 3)) (w : (Jvm.Cond.classLink B.y.cls ix C).before a0 Z = true) (wi : (Jvm.Cond.instantiable C n).before a0 Z = true) (wz : (Jvm.Cond.initialized C).before a0 Z = true) {ce' sl' : Nat} (hce : ce + 1 = ce') (hsl : sl + n = sl') (hc : ce' ≤ B.rm.cells) (hs : sl' ≤ B.rm.slots)
    (r : ∀ a h' σ', a = h.size → Keep h h' [] → a < h'.size → (∀ x, σ x → σ' x) → σ' a → Exa Z h' a C → (∀ {O nm d : String} {ty : FieldType}, Laid Z a0 C O nm d → parseFieldDescriptor d = some ty → Fld Z h' a O nm d (defaultValue ty)) → (∃ cell : Cell, h'[a]? = some cell ∧ cell.vm = .none ∧ cell.monitor = {}) →
      Go l Z a0 EL n0 kn B D Q h' σ' ce' sl' (pc + 3) Ls (.ref a :: st)) : Go l Z a0 EL n0 kn B D Q h σ ce sl pc Ls st := by
  subst hce hsl
  exact made hc (P := fun h' => Exa Z h' h.size C ∧ (∀ {O nm d : String} {ty : FieldType}, Laid Z a0 C O nm d → parseFieldDescriptor d = some ty → Fld Z h' h.size O nm d (defaultValue ty)) ∧ (∃ cell : Cell, h'[h.size]? = some cell ∧ cell.vm = .none ∧ cell.monitor = {}))
    (fun T vm0 locs X h1 h4 h5 ok => by
      obtain ⟨T', h', X', e', E, A, Dd, M, s'⟩ := newO X ok.1 (s := D.s.setVm vm0) h4 h5 w wi wz h1 (g := mkF D.m pc Ls st) rfl (Jvm.hb ok.2.1 hd) hc hs
      exact ⟨T', h', X', e', E, A.lt, ⟨A, Dd, M⟩, s'⟩)
    (fun h' σ' K hlt m1 m2 P => r h.size h' σ' rfl K hlt m1 m2 P.1 P.2.1 P.2.2)
theorem newarray (pc : Nat) {aty : ArrayType} (ty : FieldType) (n cap : Nat) {z : Int32} (hd : decode B.bs pc = .ok (.newarray aty, 2)) (hty : newarray.typeOf aty = ty) (w : (Jvm.Cond.arrayClass ty).before a0 Z = true) (hz : z.toInt = (n : Int)) (hcap : n ≤ cap) (hb : cap * 8 ≤ 536870912) {ce' sl' : Nat} (hce : ce + 1 = ce') (hsl : sl + cap = sl') (hc : ce' ≤ B.rm.cells) (hs : sl' ≤ B.rm.slots)
    (r : ∀ a h' σ', a = h.size → Keep h h' [] → a < h'.size → (∀ x, σ x → σ' x) → σ' a → Ary Z h' a ty (List.replicate n (defaultValue ty)) → Go l Z a0 EL n0 kn B D Q h' σ' ce' sl' (pc + 2) Ls (.ref a :: st)) : Go l Z a0 EL n0 kn B D Q h σ ce sl pc Ls (.int z :: st) := by
  subst hce hsl
  exact made hc (P := fun h' => Ary Z h' h.size ty (List.replicate n (defaultValue ty)))
    (fun T vm0 locs X h1 h4 h5 ok => by
      subst hty
      obtain ⟨q1, q2⟩ := ix_of hz
      obtain ⟨T', h', cA, X', e', E, A, s'⟩ := newP X ok.1 (s := D.s.setVm vm0) h4 w h1 (g := mkF D.m pc Ls (.int z :: st)) rfl (Jvm.hb ok.2.1 hd) rfl q1 (cap := cap) (by rw [q2]; exact hcap) hb hc hs
      refine ⟨T', h', X', e', E, A.lt, ⟨_, A, ?_, ?_, ?_⟩, s'⟩
      · show (Array.replicate z.toNatClampNeg (defaultValue (newarray.typeOf aty))).toList = _
        rw [q2, Array.toList_replicate]
      · rw [List.length_replicate]; omega
      · intro v hv
        rw [(List.mem_replicate.mp hv).2]
        cases aty <;> rfl)
    (fun h' σ' K hlt m1 m2 P => r h.size h' σ' rfl K hlt m1 m2 P)
theorem plainX {pc pc' : Nat} {Ls' : Array Slot} {st' : List Value}
    (k : ∀ T vm0 locs, Stand D.p l D.e B.rm (D.s.setVm vm0) D.m D.args D.bl D.meth D.c T locs ce sl → T.heap = h → Z.Warmed39 vm0 → vm0.findClass B.y.cls = some D.m.cls → Ok B D → ∀ t, Steps D.p.tables D.e D.bl (T.setTop (mkF D.m pc' Ls' st')) t → Steps D.p.tables D.e D.bl (T.setTop (mkF D.m pc Ls st)) t)
    (r : Go l Z a0 EL n0 kn B D Q h σ ce sl pc' Ls' st') : Go l Z a0 EL n0 kn B D Q h σ ce sl pc Ls st := by
  intro ok ew T vm0 I
  obtain ⟨s2, o, q, rest⟩ := r ok ew T vm0 I
  obtain ⟨k0, locs, X, h1, h2, h3, h4, h5, -⟩ := I
  exact ⟨s2, o, k T vm0 locs X h1 h4 h5 ok _ q, rest⟩
theorem alen (pc : Nat) {ty : FieldType} {vs : List Value} {n : Nat} (z : Int32) (hd : decode B.bs pc = .ok (.arraylength, 1)) (A : Ary Z h a ty vs) (hn : vs.length = n) (hz : n.toInt32 = z) (r : Go l Z a0 EL n0 kn B D Q h σ ce sl (pc + 1) Ls (.int z :: st)) : Go l Z a0 EL n0 kn B D Q h σ ce sl pc Ls (.ref a :: st) :=
  plainX (fun T vm0 locs X h1 h4 h5 ok t q => by
    obtain ⟨c, A, e, -⟩ := A
    refine X.arraylength ok.1 (by rw [h1]; exact A.1) (State.isArrayOf_alike (T := D.s.setVm vm0) h4.alike A.2.1) (g := mkF D.m pc Ls (.ref a :: st)) rfl rfl (Jvm.hb ok.2.1 hd) t ?_
    rw [← Array.length_toList, e, hn, hz]; exact q) r
theorem caload (pc : Nat) {vs : List Value} {j : Int32} (i : Nat) {v : Value} (hd : decode B.bs pc = .ok (.caload, 1)) (A : Ary Z h a .char vs) (hj : j.toInt = (i : Int)) (hv : vs[i]? = some v) (r : Go l Z a0 EL n0 kn B D Q h σ ce sl (pc + 1) Ls (v :: st)) : Go l Z a0 EL n0 kn B D Q h σ ce sl pc Ls (.int j :: .ref a :: st) :=
  plainX (fun T vm0 locs X h1 h4 h5 ok t q => by
    obtain ⟨c, A, e, -⟩ := A
    have hi : i < vs.length := (List.getElem?_eq_some_iff.mp hv).1
    exact X.caload ok.1 (by rw [h1]; exact A.1) (State.isArrayOf_alike (T := D.s.setVm vm0) h4.alike A.2.1) A.2.2 (Ary.inb e hj hi) (by rw [(ix_of hj).2, ← Array.getElem?_toList, e]; exact hv) (g := mkF D.m pc Ls (.int j :: .ref a :: st)) rfl rfl (Jvm.hb ok.2.1 hd) t q) r
theorem baload (pc : Nat) {vs : List Value} {j : Int32} (i : Nat) {v : Value} (hd : decode B.bs pc = .ok (.baload, 1)) (A : Ary Z h a .byte vs) (hj : j.toInt = (i : Int)) (hv : vs[i]? = some v) (r : Go l Z a0 EL n0 kn B D Q h σ ce sl (pc + 1) Ls (v :: st)) : Go l Z a0 EL n0 kn B D Q h σ ce sl pc Ls (.int j :: .ref a :: st) :=
  plainX (fun T vm0 locs X h1 h4 h5 ok t q => by
    obtain ⟨c, A, e, -⟩ := A
    have hi : i < vs.length := (List.getElem?_eq_some_iff.mp hv).1
    exact X.baloadBytes ok.1 (by rw [h1]; exact A.1) (State.isArrayOf_alike (T := D.s.setVm vm0) h4.alike A.2.1) A.2.2 (Ary.inb e hj hi) (by rw [(ix_of hj).2, ← Array.getElem?_toList, e]; exact hv) (g := mkF D.m pc Ls (.int j :: .ref a :: st)) rfl rfl (Jvm.hb ok.2.1 hd) t q) r
theorem laload (pc : Nat) {vs : List Value} {j : Int32} (i : Nat) {v : Value} (hd : decode B.bs pc = .ok (.laload, 1)) (A : Ary Z h a .long vs) (hj : j.toInt = (i : Int)) (hv : vs[i]? = some v) (r : Go l Z a0 EL n0 kn B D Q h σ ce sl (pc + 1) Ls (v :: st)) : Go l Z a0 EL n0 kn B D Q h σ ce sl pc Ls (.int j :: .ref a :: st) :=
  plainX (fun T vm0 locs X h1 h4 h5 ok t q => by
    obtain ⟨c, A, e, -⟩ := A
    have hi : i < vs.length := (List.getElem?_eq_some_iff.mp hv).1
    exact X.laload ok.1 (by rw [h1]; exact A.1) (State.isArrayOf_alike (T := D.s.setVm vm0) h4.alike A.2.1) A.2.2 (Ary.inb e hj hi) (by rw [(ix_of hj).2, ← Array.getElem?_toList, e]; exact hv) (g := mkF D.m pc Ls (.int j :: .ref a :: st)) rfl rfl (Jvm.hb ok.2.1 hd) t q) r
theorem castore (pc : Nat) {vs : List Value} {j x : Int32} (i : Nat) (w : Int32) (hd : decode B.bs pc = .ok (.castore, 1)) (A : Ary Z h a .char vs) (hj : j.toInt = (i : Int)) (hi : i < vs.length) (hw : nar .char x = w) (hσ : σ a)
    (r : ∀ h', Keep h h' [a] → Ary Z h' a .char (vs.set i (.int w)) → Go l Z a0 EL n0 kn B D Q h' σ ce sl (pc + 1) Ls st) : Go l Z a0 EL n0 kn B D Q h σ ce sl pc Ls (.int x :: .int j :: .ref a :: st) :=
  wrote hσ (i := i) (v := .int w) (fun T vm0 locs X h1 h4 h5 ok => by
    subst hw
    obtain ⟨c, Ar, e, -⟩ := A
    have := stC X ok.1 (s := D.s.setVm vm0) h4 h1 Ar (Ary.inb e hj hi) (g := mkF D.m pc Ls (.int x :: .int j :: .ref a :: st)) rfl rfl (Jvm.hb ok.2.1 hd)
    rw [(ix_of hj).2] at this; exact this)
    (fun h' W K => r h' K (A.wr W (hw ▸ fits_nar_char x)))
theorem bastore (pc : Nat) {vs : List Value} {j x : Int32} (i : Nat) (w : Int32) (hd : decode B.bs pc = .ok (.bastore, 1)) (A : Ary Z h a .byte vs) (hj : j.toInt = (i : Int)) (hi : i < vs.length) (hw : nar .byte x = w) (hσ : σ a)
    (r : ∀ h', Keep h h' [a] → Ary Z h' a .byte (vs.set i (.int w)) → Go l Z a0 EL n0 kn B D Q h' σ ce sl (pc + 1) Ls st) : Go l Z a0 EL n0 kn B D Q h σ ce sl pc Ls (.int x :: .int j :: .ref a :: st) :=
  wrote hσ (i := i) (v := .int w) (fun T vm0 locs X h1 h4 h5 ok => by
    subst hw
    obtain ⟨c, Ar, e, -⟩ := A
    have := stB X ok.1 (s := D.s.setVm vm0) h4 h1 Ar (Ary.inb e hj hi) (g := mkF D.m pc Ls (.int x :: .int j :: .ref a :: st)) rfl rfl (Jvm.hb ok.2.1 hd)
    rw [(ix_of hj).2] at this; exact this)
    (fun h' W K => r h' K (A.wr W (hw ▸ fits_nar_byte x)))
theorem lastore (pc : Nat) {vs : List Value} {j : Int32} {x : Int64} (i : Nat) (hd : decode B.bs pc = .ok (.lastore, 1)) (A : Ary Z h a .long vs) (hj : j.toInt = (i : Int)) (hi : i < vs.length) (hσ : σ a)
    (r : ∀ h', Keep h h' [a] → Ary Z h' a .long (vs.set i (.long x)) → Go l Z a0 EL n0 kn B D Q h' σ ce sl (pc + 1) Ls st) : Go l Z a0 EL n0 kn B D Q h σ ce sl pc Ls (.long x :: .int j :: .ref a :: st) :=
  wrote hσ (i := i) (v := .long x) (fun T vm0 locs X h1 h4 h5 ok => by
    obtain ⟨c, Ar, e, -⟩ := A
    have := stJ X ok.1 (s := D.s.setVm vm0) h4 h1 Ar (Ary.inb e hj hi) (g := mkF D.m pc Ls (.long x :: .int j :: .ref a :: st)) rfl rfl (Jvm.hb ok.2.1 hd)
    rw [(ix_of hj).2] at this; exact this)
    (fun h' W K => r h' K (A.wr W rfl))
theorem ldcI (pc : Nat) {ix : Nat} {v : Int32} (hd : decode B.bs pc = .ok (.ldc ix, 2)) (w : (Jvm.Cond.constant B.y.cls ix v).before a0 Z = true) (r : Go l Z a0 EL n0 kn B D Q h σ ce sl (pc + 2) Ls (.int v :: st)) : Go l Z a0 EL n0 kn B D Q h σ ce sl pc Ls st :=
  plainX (fun T vm0 locs X h1 h4 h5 ok t q => X.ldcI ok.1 (own := B.y.cls) h5 (mv (s := D.s.setVm vm0) h4 w) (g := mkF D.m pc Ls st) rfl (Jvm.hb ok.2.1 hd) q) r
theorem ldc2J (pc : Nat) {ix : Nat} {v : Int64} (hd : decode B.bs pc = .ok (.ldc2_w ix, 3)) (w : (Jvm.Cond.constantLong B.y.cls ix v).before a0 Z = true) (r : Go l Z a0 EL n0 kn B D Q h σ ce sl (pc + 3) Ls (.long v :: st)) : Go l Z a0 EL n0 kn B D Q h σ ce sl pc Ls st :=
  plainX (fun T vm0 locs X h1 h4 h5 ok t q => X.ldc2J ok.1 (own := B.y.cls) h5 (mv (s := D.s.setVm vm0) h4 w) (g := mkF D.m pc Ls st) rfl (Jvm.hb ok.2.1 hd) q) r
end Heap
end Jvm.Road
namespace Jvm.Road
open Jvm Jvm.ClassFile Sem Op Lib Jvm.Free Jvm.Stand Jvm.LawKit Jvm.RoadKit Bundle
section Cast
variable {l : Launch} {Z : State} {a0 : Array Value} {EL : List (String × Nat)} {n0 : Nat} {kn : Bool} {B : Bdy} {D : Dyn} {Q : Post} {h : Heap} {σ : Addr → Prop} {ce sl : Nat} {Ls : Array Slot} {st : List Value} {a : Addr}
theorem instYes (pc : Nat) {ix : Nat} {K : String} (hd : decode B.bs pc = .ok (.instanceof ix, 3)) (w : (Jvm.Cond.classLink B.y.cls ix K).before a0 Z = true) (F : Ins Z h a K true) (r : Go l Z a0 EL n0 kn B D Q h σ ce sl (pc + 3) Ls (.int 1 :: st)) : Go l Z a0 EL n0 kn B D Q h σ ce sl pc Ls (.ref a :: st) := by
  intro ok ew T vm0 I
  obtain ⟨k0, locs, X, h1, h2, h3, h4, h5, h6, h7, h8, h9, h10⟩ := I
  obtain ⟨T', X', e', s'⟩ := instY X ok.1 (s := D.s.setVm vm0) h4 h5 w h1 F (g := mkF D.m pc Ls (.ref a :: st)) rfl rfl (Jvm.hb ok.2.1 hd)
  obtain ⟨s2, o, q, rest⟩ := r ok ew T' vm0 ⟨k0, locs, X', e', h2, h3, h4, h5, h6, h7, h8, h9, h10⟩
  exact ⟨s2, o, s' _ q, rest⟩
theorem castYes (pc : Nat) {ix : Nat} {K : String} (hd : decode B.bs pc = .ok (.checkcast ix, 3)) (w : (Jvm.Cond.classLink B.y.cls ix K).before a0 Z = true) (F : Ins Z h a K true) (r : Go l Z a0 EL n0 kn B D Q h σ ce sl (pc + 3) Ls (.ref a :: st)) : Go l Z a0 EL n0 kn B D Q h σ ce sl pc Ls (.ref a :: st) := by
  intro ok ew T vm0 I
  obtain ⟨k0, locs, X, h1, h2, h3, h4, h5, h6, h7, h8, h9, h10⟩ := I
  obtain ⟨T', X', e', s'⟩ := castY X ok.1 (s := D.s.setVm vm0) h4 h5 w h1 F (g := mkF D.m pc Ls (.ref a :: st)) rfl rfl (Jvm.hb ok.2.1 hd)
  obtain ⟨s2, o, q, rest⟩ := r ok ew T' vm0 ⟨k0, locs, X', e', h2, h3, h4, h5, h6, h7, h8, h9, h10⟩
  exact ⟨s2, o, s' _ q, rest⟩
end Cast
theorem Fld.uniq {Z : State} {h : Heap} {a : Addr} {C n d : String} {v w : Value} (F : Fld Z h a C n d v) (G : Fld Z h a C n d w) : v = w := by
  obtain ⟨c1, _, _, _, f1, a1, a2, -, -, -, -, a7⟩ := F
  obtain ⟨c2, _, _, _, f2, b1, b2, -, -, -, -, b7⟩ := G
  cases a1.symm.trans b1
  have q := a2.symm.trans b2
  simp only [Option.some.injEq, Prod.mk.injEq] at q
  obtain ⟨-, -, -, rfl⟩ := q
  exact Option.some.inj (a7.symm.trans b7)
theorem Ary.uniq {Z : State} {h : Heap} {a : Addr} {ty ty' : FieldType} {vs ws : List Value} (F : Ary Z h a ty vs) (G : Ary Z h a ty' ws) : vs = ws := by
  obtain ⟨c1, A1, e1, -⟩ := F
  obtain ⟨c2, A2, e2, -⟩ := G
  cases A1.1.symm.trans A2.1
  exact e1.symm.trans e2
end Jvm.Road
namespace Jvm.Road
open Jvm Jvm.ClassFile Sem Op Lib Jvm.Free Jvm.Stand Jvm.LawKit Jvm.RoadKit Bundle
section Clone
variable {l : Launch} {Z : State} {a0 : Array Value} {EL : List (String × Nat)} {n0 : Nat} {kn : Bool} {B : Bdy} {D : Dyn} {Q : Post} {h : Heap} {σ : Addr → Prop} {ce sl : Nat} {Ls : Array Slot} {st : List Value} {a : Addr}
theorem cloneArr (pc : Nat) {ix : Nat} {ad : String} {ty : FieldType} {vs : List Value} (W cap : Nat) (hd : decode B.bs pc = .ok (.invokevirtual ix, 3))
    (w1 : (Jvm.Cond.methodLink B.y.cls ix ⟨ad, "clone", "()Ljava/lang/Object;"⟩).before a0 Z = true) (w2 : (Jvm.Cond.sameMethod ad "java/lang/Object" "clone" "()Ljava/lang/Object;").before a0 Z = true) (w3 : (Jvm.Cond.native ⟨"java/lang/Object", "clone", "()Ljava/lang/Object;"⟩).before a0 Z = true)
    (w4 : (Jvm.Cond.instanceMethod ⟨"java/lang/Object", "clone", "()Ljava/lang/Object;"⟩).before a0 Z = true) (w5 : (Jvm.Cond.selects ad ⟨ad, "clone", "()Ljava/lang/Object;"⟩ ⟨"java/lang/Object", "clone", "()Ljava/lang/Object;"⟩).before a0 Z = true) (w6 : (Jvm.Cond.castable ad "java/lang/Cloneable").before a0 Z = true)
    (A : Ary Z h a ty vs) (E : Exa Z h a ad) (hW : (st.map fun v => v.category).sum = W) (hsz : Ls.size = B.ml) (hf : 1 ≤ B.rm.frames) (hl : W + 14 ≤ B.rm.locals) (hcap : vs.length ≤ cap) {ce' sl' : Nat} (hce : ce + 1 = ce') (hsl : sl + cap = sl') (hc : ce' ≤ B.rm.cells) (hs : sl' ≤ B.rm.slots)
    (r : ∀ b h' σ', b = h.size → Keep h h' [] → b < h'.size → (∀ x, σ x → σ' x) → σ' b → Ary Z h' b ty vs → Exa Z h' b ad → Go l Z a0 EL n0 kn B D Q h' σ' ce' sl' (pc + 3) Ls (.ref b :: st)) : Go l Z a0 EL n0 kn B D Q h σ ce sl pc Ls (.ref a :: st) := by
  subst hce hsl
  exact made hc (P := fun h' => Ary Z h' h.size ty vs ∧ Exa Z h' h.size ad)
    (fun T vm0 locs X h1 h4 h5 ok => by
      obtain ⟨cl, Ar, e, q, f⟩ := A
      obtain ⟨T', h', X', e', ex, A', E', s'⟩ := cloneA X ok.1 (s := D.s.setVm vm0) h4 h5 w1 w2 w3 w4 w5 w6 h1 Ar E (fitC_of Ar fun i hi v hv => f v (by rw [← e]; exact List.mem_of_getElem? (by rw [Array.getElem?_toList]; exact hv))) (g := mkF D.m pc Ls (.ref a :: st)) rfl (hsz.trans ok.2.2.1.symm) rfl (Jvm.hb ok.2.1 hd) hf (W := W) (cap := cap) (by show 2 * 0 + _ ≤ _; rw [hW]; omega) hl (by rw [← Array.length_toList, e]; exact hcap) hc hs
      exact ⟨T', h', X', e', ex, E'.lt, ⟨⟨_, A', e, q, f⟩, E'⟩, s'⟩)
    (fun h' σ' K hlt m1 m2 P => r h.size h' σ' rfl K hlt m1 m2 P.1 P.2)
theorem aaload (pc : Nat) {ty : FieldType} {vs : List Value} {j : Int32} (i : Nat) {v : Value} (hd : decode B.bs pc = .ok (.aaload, 1)) (A : Ary Z h a ty vs) (hty : ty.isReference = true) (hj : j.toInt = (i : Int)) (hv : vs[i]? = some v) (r : Go l Z a0 EL n0 kn B D Q h σ ce sl (pc + 1) Ls (v :: st)) : Go l Z a0 EL n0 kn B D Q h σ ce sl pc Ls (.int j :: .ref a :: st) :=
  plainX (fun T vm0 locs X h1 h4 h5 ok t q => by
    obtain ⟨c, A, e, -⟩ := A
    have hi : i < vs.length := (List.getElem?_eq_some_iff.mp hv).1
    exact X.aaload ok.1 (by rw [h1]; exact A.1) (State.isArrayOf_alike (T := D.s.setVm vm0) h4.alike A.2.1) hty A.2.2 (Ary.inb e hj hi) (by rw [(ix_of hj).2, ← Array.getElem?_toList, e]; exact hv) (g := mkF D.m pc Ls (.int j :: .ref a :: st)) rfl rfl (Jvm.hb ok.2.1 hd) t q) r
theorem instNull (pc : Nat) {ix : Nat} (hd : decode B.bs pc = .ok (.instanceof ix, 3)) (r : Go l Z a0 EL n0 kn B D Q h σ ce sl (pc + 3) Ls (.int 0 :: st)) : Go l Z a0 EL n0 kn B D Q h σ ce sl pc Ls (.null :: st) :=
  plainX (fun T vm0 locs X h1 h4 h5 ok t q => X.instanceofNull ok.1 (g := mkF D.m pc Ls (.null :: st)) rfl rfl (Jvm.hb ok.2.1 hd) t q) r
end Clone
end Jvm.Road
namespace Jvm.Road
open Jvm Jvm.ClassFile Sem Op Lib Jvm.Free Jvm.Stand Jvm.LawKit Jvm.RoadKit Bundle
section Ends
variable {l : Launch} {Z : State} {a0 : Array Value} {EL : List (String × Nat)} {n0 : Nat} {kn : Bool} {B : Bdy} {D : Dyn} {Q : Post} {h : Heap} {σ : Addr → Prop} {ce sl : Nat} {Ls : Array Slot} {st : List Value} {a : Addr}
theorem own_at {vm0 : Vm} {T : State} {locs : List Loc} (X : Stand D.p l D.e B.rm (D.s.setVm vm0) D.m D.args D.bl D.meth D.c T locs ce sl) (hZ : Z.Warmed39 vm0) (ew : EW Z a0 EL) (hC : CHv Z EL vm0 h) {x : Addr} (hx : Own Z EL n0 vm0 h x) : Own Z EL n0 T.vm h x :=
  hx.imp (fun hx => ⟨(CHv.at X hZ ew hC).safe hx.2.2 hx.1, hx.2.1, hx.2.2⟩) (fun M => M.later (s := D.s) (show (D.s.setVm vm0).Warmed39 T.vm from X.warmed.wide))
/-- the end of a walk -/
theorem ended {pc : Nat} {v : Option Value} (hv : B.rt = none → v = none) (hc : ce ≤ B.rm.cells) (hs : sl ≤ B.rm.slots) (hq : ∀ σ', (∀ x, σ x → σ' x) → Q v h σ')
    (k : ∀ T vm0 locs fs, Stand D.p l D.e B.rm (D.s.setVm vm0) D.m D.args D.bl D.meth D.c T locs ce sl → Ok B D → (∀ (f : JFrame) (acts : List Action), f.method = D.m → f.locked = none → f.entered = [] → (doReturn D.e (T.setTop f) acts v).1 = T.setFrames fs) → Steps D.p.tables D.e D.bl (T.setTop (mkF D.m pc Ls st)) (T.setFrames fs)) :
    Go l Z a0 EL n0 kn B D Q h σ ce sl pc Ls st := by
  intro ok ew T vm0 I
  obtain ⟨k0, locs, X, h1, h2, h3, h4, h5, h6, h7, h8, h9, h10⟩ := I
  obtain ⟨fs, hr, hrun, hended, hE⟩ := X.leaveW h2 (by rw [h1]; exact h3) (v := v) (fun q => hv (ok.2.2.2.1.symm.trans q)) ok.2.2.2.2.1
  have hh : (T.setFrames fs).heap = h := h1
  refine ⟨T.setFrames fs, .returned v, k T vm0 locs fs X ok hr, hrun, hended, v, locs, rfl, ?_, h7, ?_, ?_, ⟨hE.1, hE.2.1, hE.2.2.1, hE.2.2.2.mono hc hs⟩⟩
  · rw [hh]; exact hq _ fun x hx => own_at X h4 ew h6.1 (h9 x hx)
  · rw [hh]; exact h6.trans (show CHr Z EL vm0 h T.vm h from CHv.at X h4 ew h6.1)
  · rw [hh]; exact h8
theorem ret (pc : Nat) (hd : decode B.bs pc = .ok (.return_, 1)) (hrt : B.rt = none) (hc : ce ≤ B.rm.cells) (hs : sl ≤ B.rm.slots) (hq : ∀ σ', (∀ x, σ x → σ' x) → Q none h σ') : Go l Z a0 EL n0 kn B D Q h σ ce sl pc Ls [] :=
  ended (fun _ => rfl) hc hs hq (fun T vm0 locs fs X ok hr => X.returnOut ok.1 (ok.2.2.2.1.trans hrt) (Jvm.hb ok.2.1 hd) hr)
theorem iret (pc : Nat) {x : Int32} {t : FieldType} (w : Int32) (hd : decode B.bs pc = .ok (.ireturn, 1)) (hrt : B.rt = some t) (ht : t = .boolean ∨ t = .byte ∨ t = .char ∨ t = .short) (hw : nar t x = w) (hc : ce ≤ B.rm.cells) (hs : sl ≤ B.rm.slots) (hq : ∀ σ', (∀ x, σ x → σ' x) → Q (some (.int w)) h σ') : Go l Z a0 EL n0 kn B D Q h σ ce sl pc Ls (.int x :: st) :=
  ended (fun q => by rw [hrt] at q; cases q) hc hs hq (fun T vm0 locs fs X ok hr => retN X ok.1 (t := t) (ok.2.2.2.1.trans hrt) ht (Jvm.hb ok.2.1 hd) (by rw [hw]; exact hr))
theorem iretI (pc : Nat) {x : Int32} (hd : decode B.bs pc = .ok (.ireturn, 1)) (hrt : B.rt = some .int) (hc : ce ≤ B.rm.cells) (hs : sl ≤ B.rm.slots) (hq : ∀ σ', (∀ x, σ x → σ' x) → Q (some (.int x)) h σ') : Go l Z a0 EL n0 kn B D Q h σ ce sl pc Ls (.int x :: st) :=
  ended (fun q => by rw [hrt] at q; cases q) hc hs hq (fun T vm0 locs fs X ok hr => retOut X ok.1 (t := .int) (ok.2.2.2.1.trans hrt) rfl (Or.inl ⟨rfl, Or.inl rfl, x, rfl⟩) (Jvm.hb ok.2.1 hd) hr)
theorem aret (pc : Nat) {v : Value} {t : FieldType} (hd : decode B.bs pc = .ok (.areturn, 1)) (hrt : B.rt = some t) (ht : t.isReference = true) (hv : v.isRef = true) (hc : ce ≤ B.rm.cells) (hs : sl ≤ B.rm.slots) (hq : ∀ σ', (∀ x, σ x → σ' x) → Q (some v) h σ') : Go l Z a0 EL n0 kn B D Q h σ ce sl pc Ls (v :: st) :=
  ended (fun q => by rw [hrt] at q; cases q) hc hs hq (fun T vm0 locs fs X ok hr => retOut X ok.1 (t := t) (ok.2.2.2.1.trans hrt) (by rcases ref_cases hv with rfl | ⟨_, rfl⟩ <;> cases t <;> first | rfl | (cases ht; done)) (Or.inr (Or.inr (Or.inr (Or.inr ⟨rfl, ht, hv⟩)))) (Jvm.hb ok.2.1 hd) hr)
/-- ldc of a String constant that is read -/
theorem ldcS (pc : Nat) {ix : Nat} (text : String) (cs : List Int32) (n : Nat) (hd : decode B.bs pc = .ok (.ldc ix, 2)) (w : (Jvm.Cond.stringLink B.y.cls ix text).before a0 Z = true) (wS : ∀ a ∈ Bundle.stringAtoms, a.before a0 Z = true) (hmem : (B.y.cls, ix) ∈ EL)
    (ht : ∀ c ∈ text.toList, c.toNat < 256) (hvs : text.toList.map (fun c => Value.int (Jvm.Lit.byteI c.toNat.toUInt16)) = cs.map byt) (hcs : ∀ c ∈ cs, 0 ≤ c.toInt ∧ c.toInt < 256) (hn : 4 * text.toList.length ≤ n) (hbig : n ≤ 536870912) {ce' sl' : Nat} (hce : ce + 2 = ce') (hsl : sl + (n + 4) = sl') (hc : ce' ≤ B.rm.cells) (hs : sl' ≤ B.rm.slots)
    (r : ∀ a b h' σ', Keep h h' [] → (∀ x, σ x → x < h.size → σ' x) → Str Z h' a b cs → (∀ x, σ' x → x ≠ a ∧ x ≠ b) → (∀ k, k < 64 → EL[k]? = some (B.y.cls, ix) → σ' (lm n0 k a)) → Go l Z a0 EL n0 kn B D Q h' σ' ce' sl' (pc + 2) Ls (.ref a :: st)) : Go l Z a0 EL n0 kn B D Q h σ ce sl pc Ls st := by
  subst hce hsl
  intro ok ew T vm0 I
  obtain ⟨k0, locs, X, h1, h2, h3, h4, h5, h6, h7, h8, h9, h10⟩ := I
  have hlen : (cs.map byt).length = text.toList.length := by rw [← hvs, List.length_map]
  have hsm : text.toList.length < 2147483648 := by omega
  have hz : (text.toList.length).toInt32.toInt = (text.toList.length : Int) := len_toInt hsm
  obtain ⟨q1, q2⟩ := ix_of hz
  obtain ⟨a, T', h', k1, b, k, X', e', E, hS', hk', hZ', ho', E1, E2, E3, E4, l1, l2, hCr, hL, hne, s'⟩ := ldcCH (s := D.s) X ok.1 h4 h5 w wS h1 h2 h3 ew hmem h6.1 (vs := cs.map byt) (z := (text.toList.length).toInt32) ⟨ht, hvs⟩ q1 (by rw [q2, hlen]) (g := mkF D.m pc Ls st) rfl (Jvm.hb ok.2.1 hd) hn hbig hc hs
  have hal : vm0.Alike T'.vm := by
    have z1 := h4.alike
    have z2 : Z.vm.Alike T'.vm := State.Warmed39.alike hZ'
    exact z1.symm.trans z2
  obtain ⟨s2, o, q, rest⟩ := r a b h' (Own Z EL n0 T'.vm h') (keep_ext E) (fun x hx hlt => have q := (h9 x hx).real hlt (h1 ▸ bound X h10.2); Or.inl ⟨hCr.safe q.2.2 q.1, q.2.1, Nat.lt_of_lt_of_le q.2.2 E.1⟩) ⟨E1, E2, E3, Ary.of_arv E4 (by rw [q2, hlen]), hcs⟩ (fun x hx => hx.elim (fun q => hne x q.1) (fun M => have hb := Nat.le_trans (Nat.le_of_eq (congrArg Array.size e'.symm)) (bound X' ⟨hc, h10.2.2⟩); ⟨fun z => absurd (Nat.lt_of_lt_of_le (z ▸ l1) hb) (Nat.not_lt.mpr M.ge), fun z => absurd (Nat.lt_of_lt_of_le (z ▸ l2) hb) (Nat.not_lt.mpr M.ge)⟩)) (fun k hk hel => Or.inr ⟨k, a, _, hk, rfl, hel, hL⟩) ok ew T' T'.vm
    ⟨k1, locs, X', e', hS', hk', hZ', ho', h6.trans hCr, h7, h8.ext E, fun x hx => hx, fun z => ⟨(h10.1 z).1.alikeC hal, (h10.1 z).2.alikeC hal⟩, hc, h10.2.2⟩
  exact ⟨s2, o, s' _ q, rest⟩
/-- ldc of a constant that is marked: the same String again, at no cost -/
theorem ldcK (pc : Nat) {ix : Nat} {text : String} (k : Nat) {a : Addr} (hd : decode B.bs pc = .ok (.ldc ix, 2)) (w : (Jvm.Cond.stringLink B.y.cls ix text).before a0 Z = true) (hk : k < 64) (hel : EL[k]? = some (B.y.cls, ix)) (hσ : σ (lm n0 k a))
    (r : Go l Z a0 EL n0 kn B D Q h σ ce sl (pc + 2) Ls (.ref a :: st)) : Go l Z a0 EL n0 kn B D Q h σ ce sl pc Ls st := by
  intro ok ew T vm0 I
  have I0 := I
  obtain ⟨k0, locs, X, h1, h2, h3, h4, h5, h6, h7, h8, h9, h10⟩ := I
  have hb : h.size ≤ MC n0 := h1 ▸ bound X h10.2
  have L : Lit (D.s.setVm vm0) B.y.cls ix a := by
    rcases h9 _ hσ with q | ⟨k', a', p, q1, q2, q3, q4⟩
    · exact absurd (Nat.lt_of_lt_of_le q.2.2 hb) (Nat.not_lt.mpr (Nat.le_trans (Nat.le_add_right _ _) (Nat.le_add_right _ _)))
    · have e : k = k' ∧ a = a' := by have q2 : n0 + 1000 + 64 * a + k = n0 + 1000 + 64 * a' + k' := q2; exact lm_inj hk q1 q2
      obtain ⟨rfl, rfl⟩ := e
      cases hel.symm.trans q3; exact q4
  obtain ⟨s2, o, q, rest⟩ := r ok ew T vm0 I0
  exact ⟨s2, o, ldcAgain (s := D.s) X ok.1 h4 h5 w L (g := mkF D.m pc Ls st) rfl (Jvm.hb ok.2.1 hd) _ q, rest⟩
end Ends
section Calls
variable {l : Launch} {Z : State} {a0 : Array Value} {EL : List (String × Nat)} {n0 : Nat} {kn : Bool} {B B' : Bdy} {D : Dyn} {Q Q' : Post} {h : Heap} {σ : Addr → Prop} {ce sl : Nat} {Ls : Array Slot} {st : List Value} {a : Addr}
theorem Con.back {R : Room} {p : Program} {e : Env} {below : List Frame} {s : State} {args : Array Value} {vm0 : Vm} {len W : Nat} {as : Array Value} (hM : Con l Z EL n0 kn B' [] σ as h Q') (hZ : Z.Warmed39 vm0) (wc : (Jvm.Cond.code B'.y B'.bs B'.ml B'.rt).before a0 Z = true) (wz : (Jvm.Cond.initialized B'.y.cls).before a0 Z = true)
    (hf : B'.rm.frames + 1 ≤ R.frames) (hl : W + (B'.ml + 11) + B'.rm.locals ≤ R.locals) (hEL : EW Z a0 EL) (H : CHv Z EL vm0 h) (hO : Old Z n0 h) (hbd : h.size + B'.rm.cells ≤ MC n0) (hσ : ∀ x, σ x → Own Z EL n0 vm0 h x) (hK : kn = true → vm0.MethodsKnown ∧ vm0.FramesKnown below) :
    BackS l R p e below (s.setVm vm0) args B'.y len W (fun A a => a = as ∧ A.U.heap = h ∧ A.cells + B'.rm.cells ≤ R.cells ∧ A.slots + B'.rm.slots ≤ R.slots)
      (fun A _ v Bp => ∃ L, (Q' v Bp.U.heap (Own Z EL n0 Bp.U.vm Bp.U.heap) ∧ Fr n0 L ∧ Old Z n0 Bp.U.heap) ∧ Bp.locs = A.locs ++ L ∧ Bp.cells = A.cells + B'.rm.cells ∧ Bp.slots = A.slots + B'.rm.slots ∧ CHr Z EL vm0 h Bp.U.vm Bp.U.heap) :=
  BackS.of_freeWG (bytes := B'.bs) (maxL := B'.ml) (ret := B'.rt) (E := fun _ first o t L k n => k = B'.rm.cells ∧ n = B'.rm.slots ∧ (∃ v, o = .returned v ∧ Q' v t.heap (Own Z EL n0 t.vm t.heap) ∧ Fr n0 L ∧ Old Z n0 t.heap) ∧ CHr Z EL first.vm first.heap t.vm t.heap) hM hf hl
    (fun m meth c A a Y hp => have hU : Z.Warmed39 A.U.vm := wtrans (s := s.setVm vm0) hZ Y.warmed
      ⟨by show (Cond.and _ .tt).before a A.U = true; rw [Cond.before_and, mv hU wc]; rfl, mv hU wc, mv hU wz, hp.2.2.1, hp.2.2.2⟩)
    (fun m meth c A a g mk Y hp => ⟨hp.1, wtrans (s := s.setVm vm0) hZ Y.warmed, hp.2.1, (CHv.at Y hZ hEL H).1, hO, hbd, fun x hx => (hσ x hx).imp (fun q => ⟨(CHv.at Y hZ hEL H).safe q.2.2 q.1, q.2⟩) (fun M => M.later (s := s) (show (s.setVm vm0).Warmed39 A.U.vm from Y.warmed.wide))⟩)
    (fun m meth c A a g mk Y _ hg hkn => known_frames Y hg (hK hkn).1 (hK hkn).2)
    (fun _ _ _ _ ⟨v, L, h1, h2, h3, h4, h5, h6⟩ => ⟨L, _, _, h6, rfl, rfl, ⟨v, h1, h2, h3, h5⟩, h4⟩)
    (fun m meth c A a g mk v t L k n Y hp _ _ ⟨e1, e2, ⟨v', e3, e4⟩, e5⟩ => by
      cases e3; subst e1 e2
      refine ⟨L, e4, rfl, rfl, rfl, (CHv.at Y hZ hEL H).trans ?_⟩
      rw [← hp.2.1]; exact e5)
/-- behind a call -/
theorem called {pc len : Nat} {rest : List Value} {as : Array Value} (W : Nat) (hM : Con l Z EL n0 kn B' [] σ as h Q') (wc : (Jvm.Cond.code B'.y B'.bs B'.ml B'.rt).before a0 Z = true) (wz : (Jvm.Cond.initialized B'.y.cls).before a0 Z = true)
    (hf : B'.rm.frames + 1 ≤ B.rm.frames) (hl : W + (B'.ml + 11) + B'.rm.locals ≤ B.rm.locals) (hc : ce + B'.rm.cells ≤ B.rm.cells) (hs : sl + B'.rm.slots ≤ B.rm.slots)
    (k : ∀ T vm0 locs, Stand D.p l D.e B.rm (D.s.setVm vm0) D.m D.args D.bl D.meth D.c T locs ce sl → T.heap = h → Z.Warmed39 vm0 → vm0.findClass B.y.cls = some D.m.cls → Ok B D →
      ∀ {Pre : Pt → Array Value → Prop} {Pst : Pt → Array Value → Option Value → Pt → Prop}, BackS l B.rm D.p D.e D.bl (D.s.setVm vm0) D.args B'.y len W Pre Pst → (∀ vm₁, (D.s.setVm vm0).WarmedH vm₁ → Pre ⟨T.setVm vm₁, locs, ce, sl⟩ as) →
      ∃ (v : Option Value) (vm₁ : Vm) (Bp : Pt), (D.s.setVm vm0).WarmedH vm₁ ∧ Stand D.p l D.e B.rm ((D.s.setVm vm0).setVm Bp.U.vm) D.m D.args D.bl D.meth D.c Bp.U Bp.locs Bp.cells Bp.slots ∧ (D.s.setVm vm0).Since Bp.U.vm Bp.U.heap.size ∧ T.heap.size ≤ Bp.U.heap.size ∧ Pst ⟨T.setVm vm₁, locs, ce, sl⟩ as v Bp ∧
        Steps D.p.tables D.e D.bl (T.setTop (mkF D.m pc Ls st)) (Bp.U.setTop (mkF D.m (pc + len) Ls (v.toList ++ rest))))
    (r : ∀ v h' σ', (∀ x, σ x → σ' x) → Q' v h' σ' → Go l Z a0 EL n0 kn B D Q h' σ' (ce + B'.rm.cells) (sl + B'.rm.slots) (pc + len) Ls (push v rest)) : Go l Z a0 EL n0 kn B D Q h σ ce sl pc Ls st := by
  intro ok ew T vm0 I
  obtain ⟨k0, locs, X, h1, h2, h3, h4, h5, h6, h7, h8, h9, h10⟩ := I
  obtain ⟨v, vm₁, ⟨U, Lc, kc, ks⟩, -, X', hS', hgr, ⟨L, ⟨hQ, hFr, hOld⟩, e1, e2, e3, hCr⟩, stp⟩ := k T vm0 locs X h1 h4 h5 ok (Con.back (s := D.s) hM h4 wc wz hf hl ew h6.1 h8 (Nat.le_trans (Nat.add_le_add_right (h1 ▸ X.heapSize) _) (by have q1 := h10.2.2; have q2 := hc; show D.s.heap.size + ce + B'.rm.cells ≤ _; omega)) h9 h10.1) (fun vm₁ _ => ⟨rfl, h1, hc, hs⟩)
  dsimp only [Pt.U, Pt.locs, Pt.cells, Pt.slots] at X' hS' hgr hQ hOld e1 e2 e3 hCr stp
  subst e1 e2 e3
  obtain ⟨Y, hS2, hZ2, ho2⟩ := rebS h2 (by rw [← h1] at h3; exact h3) X' hS' hgr h4 h5
  have hal : vm0.Alike U.vm := hS'.1.alike
  rw [push_eq] at stp
  obtain ⟨s2, o, q, rest'⟩ := r v U.heap (Own Z EL n0 U.vm U.heap) (fun x hx => (h9 x hx).imp (fun q => ⟨hCr.safe q.2.2 q.1, q.2.1, Nat.lt_of_lt_of_le q.2.2 (by rw [← h1]; exact hgr)⟩) (fun M => M.later (s := D.s) hS'.1)) hQ ok ew U U.vm
    ⟨U.heap.size, _, Y, rfl, hS2, Nat.le_refl _, hZ2, ho2, h6.trans hCr, h7.app hFr, hOld, fun x hx => hx, fun z => ⟨(h10.1 z).1.alikeC hal, (h10.1 z).2.alikeC hal⟩, hc, h10.2.2⟩
  exact ⟨s2, o, stp.trans q, rest'⟩
abbrev notMH (y : MethodName) : Prop := y.cls ≠ "java/lang/invoke/MethodHandle" ∧ y.cls ≠ "java/lang/invoke/VarHandle"
theorem callS (pc : Nat) {ix : Nat} {argsL rest : List Value} (W : Nat) (hd : decode B.bs pc = .ok (.invokestatic ix, 3)) (w1 : (Jvm.Cond.methodLink B.y.cls ix B'.y).before a0 Z = true) (w2 : (Jvm.Cond.static B'.y).before a0 Z = true) (w3 : (Jvm.Cond.initialized B'.y.cls).before a0 Z = true) (w4 : (Jvm.Cond.code B'.y B'.bs B'.ml B'.rt).before a0 Z = true) (hy : notMH B'.y)
    (hM : Con l Z EL n0 kn B' [] σ argsL.toArray h Q') (hlen : ∀ sig, parseMethodDescriptor B'.y.desc = some sig → argsL.length = sig.parameters.length) (hst : st = argsL.reverse ++ rest) (hW : (rest.map fun v => v.category).sum = W) (hsz : Ls.size = B.ml)
    (hf : B'.rm.frames + 1 ≤ B.rm.frames) (hl : W + (B'.ml + 11) + B'.rm.locals ≤ B.rm.locals) {ce' sl' : Nat} (hce : ce + B'.rm.cells = ce') (hsl : sl + B'.rm.slots = sl') (hc : ce' ≤ B.rm.cells) (hs : sl' ≤ B.rm.slots)
    (r : ∀ v h' σ', (∀ x, σ x → σ' x) → Q' v h' σ' → Go l Z a0 EL n0 kn B D Q h' σ' ce' sl' (pc + 3) Ls (push v rest)) : Go l Z a0 EL n0 kn B D Q h σ ce sl pc Ls st := by
  subst hce hsl
  exact called W hM w4 w3 hf hl hc hs (fun T vm0 locs X h1 h4 h5 ok {Pre Pst} hB hpre =>
    callSS X ok.1 (s := D.s.setVm vm0) h5 (mv (s := D.s.setVm vm0) h4 w1) (mv (s := D.s.setVm vm0) h4 w2) (mv (s := D.s.setVm vm0) h4 w3) (mv (s := D.s.setVm vm0) h4 w4) hy hB (g := mkF D.m pc Ls st) rfl (hsz.trans ok.2.2.1.symm) (argsL := argsL) (rest := rest) hlen hst (by show 2 * 0 + _ ≤ _; rw [hW]; omega) (Jvm.hb ok.2.1 hd) hpre) r
theorem callI (pc : Nat) {ix : Nat} {argsL rest : List Value} (W : Nat) (hd : decode B.bs pc = .ok (.invokespecial ix, 3)) (w1 : (Jvm.Cond.methodLink B.y.cls ix B'.y).before a0 Z = true) (w2 : (Jvm.Cond.instanceMethod B'.y).before a0 Z = true) (w3 : (Jvm.Cond.initialized B'.y.cls).before a0 Z = true) (w4 : (Jvm.Cond.code B'.y B'.bs B'.ml B'.rt).before a0 Z = true) (hi : B'.y.name = "<init>") (hrt : B'.rt = none) (hy : notMH B'.y)
    (hM : Con l Z EL n0 kn B' [] σ (.ref a :: argsL).toArray h Q') (hlen : ∀ sig, parseMethodDescriptor B'.y.desc = some sig → argsL.length = sig.parameters.length) (hst : st = argsL.reverse ++ .ref a :: rest) (hW : (rest.map fun v => v.category).sum = W) (hsz : Ls.size = B.ml)
    (hf : B'.rm.frames + 1 ≤ B.rm.frames) (hl : W + (B'.ml + 11) + B'.rm.locals ≤ B.rm.locals) {ce' sl' : Nat} (hce : ce + B'.rm.cells = ce') (hsl : sl + B'.rm.slots = sl') (hc : ce' ≤ B.rm.cells) (hs : sl' ≤ B.rm.slots)
    (r : ∀ v h' σ', (∀ x, σ x → σ' x) → Q' v h' σ' → Go l Z a0 EL n0 kn B D Q h' σ' ce' sl' (pc + 3) Ls (push v rest)) : Go l Z a0 EL n0 kn B D Q h σ ce sl pc Ls st := by
  subst hce hsl
  exact called W hM w4 w3 hf hl hc hs (fun T vm0 locs X h1 h4 h5 ok {Pre Pst} hB hpre =>
    X.specialBackS ok.1 hi (s := D.s.setVm vm0) h5 (mv (s := D.s.setVm vm0) h4 w1) (mv (s := D.s.setVm vm0) h4 w2) (bytes := B'.bs) (maxL := B'.ml) (mv (s := D.s.setVm vm0) h4 (hrt ▸ w4)) hy hB (g := mkF D.m pc Ls st) rfl (hsz.trans ok.2.2.1.symm) (Steps.refl _) (argsL := argsL) (rest := rest) hlen hst (by show 2 * 0 + _ ≤ _; rw [hW]; omega) (Jvm.hb ok.2.1 hd) hpre) r
theorem callV (pc : Nat) {ix : Nat} {y : MethodName} {argsL rest : List Value} (C : String) (W : Nat) (hd : decode B.bs pc = .ok (.invokevirtual ix, 3)) (w1 : (Jvm.Cond.methodLink B.y.cls ix y).before a0 Z = true) (w2 : (Jvm.Cond.declares y).before a0 Z = true) (nf : ∀ vm0, Z.Warmed39 vm0 → NotFace (D.s.setVm vm0) y) (w5 : (Jvm.Cond.selects C y B'.y).before a0 Z = true) (w6 : (Jvm.Cond.instanceMethod B'.y).before a0 Z = true) (w3 : (Jvm.Cond.initialized B'.y.cls).before a0 Z = true) (w4 : (Jvm.Cond.code B'.y B'.bs B'.ml B'.rt).before a0 Z = true) (hy : notMH y)
    (E : Exa Z h a C) (hM : Con l Z EL n0 kn B' [] σ (.ref a :: argsL).toArray h Q') (hlen : ∀ sig, parseMethodDescriptor y.desc = some sig → argsL.length = sig.parameters.length) (hst : st = argsL.reverse ++ .ref a :: rest) (hW : (rest.map fun v => v.category).sum = W) (hsz : Ls.size = B.ml)
    (hf : B'.rm.frames + 1 ≤ B.rm.frames) (hl : W + (B'.ml + 11) + B'.rm.locals ≤ B.rm.locals) {ce' sl' : Nat} (hce : ce + B'.rm.cells = ce') (hsl : sl + B'.rm.slots = sl') (hc : ce' ≤ B.rm.cells) (hs : sl' ≤ B.rm.slots)
    (r : ∀ v h' σ', (∀ x, σ x → σ' x) → Q' v h' σ' → Go l Z a0 EL n0 kn B D Q h' σ' ce' sl' (pc + 3) Ls (push v rest)) : Go l Z a0 EL n0 kn B D Q h σ ce sl pc Ls st := by
  subst hce hsl
  exact called W hM w4 w3 hf hl hc hs (fun T vm0 locs X h1 h4 h5 ok {Pre Pst} hB hpre => by
    obtain ⟨cq, kq, qa, qb, qc⟩ := isOf (s := D.s.setVm vm0) h4 h1 E
    exact X.virtualBackS ok.1 (s := D.s.setVm vm0) (C := C) h5 (mv (s := D.s.setVm vm0) h4 w1) (mv (s := D.s.setVm vm0) h4 w2) (nf vm0 h4) (mv (s := D.s.setVm vm0) h4 w5) (mv (s := D.s.setVm vm0) h4 w6) hy hB qa qc (g := mkF D.m pc Ls st) rfl (hsz.trans ok.2.2.1.symm) (Steps.refl _) (argsL := argsL) (rest := rest) hlen hst (by show 2 * 0 + _ ≤ _; rw [hW]; omega) (Jvm.hb ok.2.1 hd) hpre) r
/-- Object.<init> -/
theorem initObj (pc : Nat) {ix : Nat} (hd : decode B.bs pc = .ok (.invokespecial ix, 3)) (w1 : (Jvm.Cond.methodLink B.y.cls ix Lib.objectInit).before a0 Z = true) (w2 : (Jvm.Cond.instanceMethod Lib.objectInit).before a0 Z = true) (w3 : (Jvm.Cond.code Lib.objectInit ⟨#[0xb1]⟩ 1 none).before a0 Z = true) (W : Nat) (hW : (st.map fun v => v.category).sum = W) (hsz : Ls.size = B.ml) (hf : 1 ≤ B.rm.frames) (hl : W + 12 ≤ B.rm.locals)
    (r : Go l Z a0 EL n0 kn B D Q h σ ce sl (pc + 3) Ls st) : Go l Z a0 EL n0 kn B D Q h σ ce sl pc Ls (.ref a :: st) := by
  intro ok ew T vm0 I
  obtain ⟨k0, locs, X, h1, h2, h3, h4, h5, h6, h7, h8, h9, h10⟩ := I
  obtain ⟨T', X', e', s'⟩ := initO X ok.1 (s := D.s.setVm vm0) h4 h5 w1 w2 w3 h1 (g := mkF D.m pc Ls (.ref a :: st)) rfl (hsz.trans ok.2.2.1.symm) rfl (Jvm.hb ok.2.1 hd) hf (W := W) (by show 2 * 0 + _ ≤ _; rw [hW]; omega) hl
  obtain ⟨s2, o, q, rest⟩ := r ok ew T' vm0 ⟨k0, locs, X', e', h2, h3, h4, h5, h6, h7, h8, h9, h10⟩
  exact ⟨s2, o, s' _ q, rest⟩
end Calls
end Jvm.Road
namespace Jvm.Road
open Jvm Jvm.ClassFile Sem Op Lib Jvm.Free Jvm.Stand Jvm.LawKit Jvm.RoadKit Bundle
theorem n32 {i : Nat} (h : i < 2147483648) : i.toInt32.toInt = (i : Int) := len_toInt h
theorem succ32 (i : Nat) : i.toInt32 + 1 = (i + 1).toInt32 := (Int32.ofNat_add i 1).symm
theorem add32n (i j : Nat) : i.toInt32 + j.toInt32 = (i + j).toInt32 := (Int32.ofNat_add i j).symm
theorem lt32 {i j : Nat} (hi : i < 2147483648) (hj : j < 2147483648) : i.toInt32 < j.toInt32 ↔ i < j := by
  rw [Int32.lt_iff_toInt_lt, n32 hi, n32 hj]; omega
theorem eq32 {i j : Nat} (hi : i < 2147483648) (hj : j < 2147483648) : i.toInt32 = j.toInt32 ↔ i = j := by
  rw [← Int32.toInt_inj, n32 hi, n32 hj]; omega
/-- a slot that an int may be stored in -/
def W1 (w : Slot) : Prop := w = .unset ∨ ∃ v, w = .val (.int v)
theorem nar_byte (x : Int32) : nar .byte (Int8.toInt32 (Int32.toInt8 x)) = Int8.toInt32 (Int32.toInt8 x) := by simp [nar]
theorem nar_chr (x : Int32) : nar .char (chr x) = chr x := by simp only [nar, chr, UInt32.toUInt32_toInt32, UInt16.toUInt16_toUInt32]
theorem set_mid {α β : Type} (f : α → β) (cs : List α) (z : β) (k r : Nat) (hk : k < cs.length) : ((cs.take k).map f ++ List.replicate (r + 1) z).set k (f cs[k]) = (cs.take (k + 1)).map f ++ List.replicate r z := by
  have hl : ((cs.take k).map f).length = k := by simp; omega
  rw [List.set_append, if_neg (by omega), hl, Nat.sub_self, List.replicate_succ, List.set_cons_zero, List.take_succ_eq_append_getElem hk, List.map_append]
  simp
end Jvm.Road
namespace Jvm.Road
open Jvm Jvm.ClassFile Sem Op Lib Jvm.Free Jvm.Stand Jvm.LawKit Jvm.RoadKit Bundle
theorem narRef {t : FieldType} {v : Value} (ht : t.isReference = true) (hv : v.isRef = true) : narrow t v = v := by
  rcases ref_cases hv with rfl | ⟨_, rfl⟩ <;> cases t <;> first | rfl | (cases ht; done)
theorem fitRef {t : FieldType} {v : Value} (ht : t.isReference = true) (hv : v.isRef = true) : fits t v = true := by
  rcases ref_cases hv with rfl | ⟨_, rfl⟩ <;> cases t <;> first | rfl | (cases ht; done)
theorem and255 (x : Int32) : 0 ≤ (chr (x &&& 255)).toInt ∧ (chr (x &&& 255)).toInt < 256 := by
  rw [show chr (x &&& 255) = x &&& 255 from i2c_mask x]
  have h1 : (x &&& 255).toInt = ((x.toBitVec &&& 255#32).toInt) := rfl
  have h2 : (x.toBitVec &&& 255#32).toNat ≤ 255 := by rw [BitVec.toNat_and]; exact Nat.and_le_right
  have h3 : (x.toBitVec &&& 255#32).toInt = ((x.toBitVec &&& 255#32).toNat : Int) := BitVec.toInt_eq_toNat_of_lt (by omega)
  rw [h1, h3]; omega
end Jvm.Road
namespace Jvm.Road
open Jvm Jvm.ClassFile Sem Op Lib Jvm.Free Jvm.Stand Jvm.LawKit Jvm.RoadKit Bundle
theorem nameI {l : Launch} {Z : State} {a0 : Array Value} {EL : List (String × Nat)} {n0 : Nat} {kn : Bool} {B : Bdy} {D : Dyn} {Q : Post} {h : Heap} {σ : Addr → Prop} {ce sl : Nat} {Ls : Array Slot} {st : List Value} {pc : Nat} {x : Int32}
    (r : ∀ z, z = x → Go l Z a0 EL n0 kn B D Q h σ ce sl pc Ls (.int z :: st)) : Go l Z a0 EL n0 kn B D Q h σ ce sl pc Ls (.int x :: st) := r x rfl
theorem nameJ {l : Launch} {Z : State} {a0 : Array Value} {EL : List (String × Nat)} {n0 : Nat} {kn : Bool} {B : Bdy} {D : Dyn} {Q : Post} {h : Heap} {σ : Addr → Prop} {ce sl : Nat} {Ls : Array Slot} {st : List Value} {pc : Nat} {x : Int64}
    (r : ∀ z, z = x → Go l Z a0 EL n0 kn B D Q h σ ce sl pc Ls (.long z :: st)) : Go l Z a0 EL n0 kn B D Q h σ ce sl pc Ls (.long x :: st) := r x rfl
theorem and3 (x : Int32) : x &&& 3 = 0 ∨ x &&& 3 = 1 ∨ x &&& 3 = 2 ∨ x &&& 3 = 3 := by
  have h1 : (x &&& 3).toInt = ((x.toBitVec &&& 3#32).toInt) := rfl
  have h2 : (x.toBitVec &&& 3#32).toNat ≤ 3 := by rw [BitVec.toNat_and]; exact Nat.and_le_right
  have h3 : (x.toBitVec &&& 3#32).toInt = ((x.toBitVec &&& 3#32).toNat : Int) := BitVec.toInt_eq_toNat_of_lt (by omega)
  have h4 : (x &&& 3).toInt = 0 ∨ (x &&& 3).toInt = 1 ∨ (x &&& 3).toInt = 2 ∨ (x &&& 3).toInt = 3 := by rw [h1, h3]; omega
  rcases h4 with h | h | h | h
  · exact Or.inl (Int32.toInt_inj.mp h)
  · exact Or.inr (Or.inl (Int32.toInt_inj.mp h))
  · exact Or.inr (Or.inr (Or.inl (Int32.toInt_inj.mp h)))
  · exact Or.inr (Or.inr (Or.inr (Int32.toInt_inj.mp h)))
/-- a slot that a reference may be stored in -/
def W2 (w : Slot) : Prop := w = .unset ∨ ∃ v, w = .val (.ref v)
end Jvm.Road
namespace Jvm.Road
open Jvm Jvm.ClassFile Sem Op Lib Jvm.Free Jvm.Stand Jvm.LawKit Jvm.RoadKit Bundle
theorem shr0 (x : Int32) : x >>> ((0 : Int32) &&& 31) = x := by
  apply Int32.toBitVec_inj.mp; simp [Int32.toBitVec_shiftRight]
theorem lat_nat {c : Int32} (h : 0 ≤ c.toInt ∧ c.toInt < 256) : ∃ i : Fin 256, c = Int32.ofInt (i.1 : Int) := by
  refine ⟨⟨c.toInt.toNat, by omega⟩, ?_⟩
  apply Int32.toInt_inj.mp
  show c.toInt = (Int32.ofInt ((c.toInt.toNat : Nat) : Int)).toInt
  rw [Int.toNat_of_nonneg h.1, Int32.ofInt_toInt]
theorem byte_back {c : Int32} (h : 0 ≤ c.toInt ∧ c.toInt < 256) : nar .char (chr (Int8.toInt32 (Int32.toInt8 c) &&& 255)) = c := by
  obtain ⟨i, rfl⟩ := lat_nat h
  exact (by decide +kernel : ∀ i : Fin 256, nar .char (chr (Int8.toInt32 (Int32.toInt8 (Int32.ofInt (i.1 : Int))) &&& 255)) = Int32.ofInt (i.1 : Int)) i
theorem nar_lat {c : Int32} (h : 0 ≤ c.toInt ∧ c.toInt < 256) : nar .char c = c := by
  obtain ⟨i, rfl⟩ := lat_nat h
  exact (by decide +kernel : ∀ i : Fin 256, nar .char (Int32.ofInt (i.1 : Int)) = Int32.ofInt (i.1 : Int)) i
end Jvm.Road
namespace Jvm.Road
open Jvm Jvm.ClassFile Sem Op Lib Jvm.Free Jvm.Stand Jvm.LawKit Jvm.RoadKit Bundle
/-- an int's 32 bits as a number -/
def u32 (x : Int32) : Nat := x.toBitVec.toNat
theorem u32_lt (x : Int32) : u32 x < 4294967296 := x.toBitVec.isLt
theorem u32_inj {x y : Int32} (h : u32 x = u32 y) : x = y := Int32.toBitVec_inj.mp (BitVec.eq_of_toNat_eq h)
theorem toInt_u32 {x : Int32} (h : u32 x < 2147483648) : x.toInt = (u32 x : Int) := by
  show x.toBitVec.toInt = _
  exact BitVec.toInt_eq_toNat_of_lt (by show 2 * u32 x < 2 ^ 32; omega)
theorem u32_and (x y : Int32) : u32 (x &&& y) = u32 x &&& u32 y := BitVec.toNat_and ..
theorem u32_chr (x : Int32) : u32 (chr x) = u32 x % 65536 := by
  show ((x.toBitVec.setWidth 16).setWidth 32).toNat = _
  rw [BitVec.toNat_setWidth, BitVec.toNat_setWidth]
  show x.toBitVec.toNat % 65536 % 4294967296 = _
  show _ = x.toBitVec.toNat % 65536
  omega
theorem u32_ushr (x y : Int32) : u32 (XT.ushr x y) = u32 x >>> (u32 y % 32) := by
  show ((x.toBitVec >>> ((y &&& 31).toBitVec.umod 32#32)).toNat) = _
  have h : ((y &&& 31).toBitVec.umod 32#32).toNat = u32 y % 32 := by
    show (BitVec.umod (y.toBitVec &&& 31#32) 32#32).toNat = _
    rw [show (BitVec.umod (y.toBitVec &&& 31#32) 32#32) = (y.toBitVec &&& 31#32) % 32#32 from rfl, BitVec.toNat_umod, BitVec.toNat_and]
    show (u32 y &&& 31) % 32 = _
    rw [show (31 : Nat) = 2 ^ 5 - 1 from rfl, Nat.and_two_pow_sub_one_eq_mod]
    omega
  rw [← h]
  exact BitVec.toNat_ushiftRight ..
theorem and_mask (x : Nat) (k : Nat) : x &&& (2 ^ k - 1) = x % 2 ^ k := Nat.and_two_pow_sub_one_eq_mod x k
theorem u32_and255 (x : Int32) : u32 (x &&& 255) = u32 x % 256 := by rw [u32_and]; exact and_mask _ 8
theorem u32_and7 (x : Int32) : u32 (x &&& 7) = u32 x % 8 := by rw [u32_and]; exact and_mask _ 3
theorem u32_and3 (x : Int32) : u32 (x &&& 3) = u32 x % 4 := by rw [u32_and]; exact and_mask _ 2
theorem u32_and1 (x : Int32) : u32 (x &&& 1) = u32 x % 2 := by rw [u32_and]; exact and_mask _ 1
theorem chr_id {x : Int32} (h : u32 x < 65536) : chr x = x := u32_inj (by rw [u32_chr]; omega)
end Jvm.Road
namespace Jvm.Road
open Jvm Jvm.ClassFile Sem Op Lib Jvm.Free Jvm.Stand Jvm.LawKit Jvm.RoadKit Bundle
/-- the byte of a char, as an int -/
def bf (c : Int32) : Int32 := Int8.toInt32 (Int32.toInt8 c)
theorem bf_inj {c d : Int32} (hc : 0 ≤ c.toInt ∧ c.toInt < 256) (hd : 0 ≤ d.toInt ∧ d.toInt < 256) (h : bf c = bf d) : c = d := by
  rw [← byte_back hc, ← byte_back hd]
  show nar .char (chr (bf c &&& 255)) = nar .char (chr (bf d &&& 255))
  rw [h]
theorem bfs_inj : ∀ {cs ds : List Int32}, (∀ c ∈ cs, 0 ≤ c.toInt ∧ c.toInt < 256) → (∀ c ∈ ds, 0 ≤ c.toInt ∧ c.toInt < 256) → cs.map bf = ds.map bf → cs = ds
  | [], [], _, _, _ => rfl
  | [], d :: ds, _, _, h => by simp at h
  | c :: cs, [], _, _, h => by simp at h
  | c :: cs, d :: ds, h1, h2, h => by
    simp only [List.map_cons, List.cons.injEq] at h
    rw [bf_inj (h1 _ (by simp)) (h2 _ (by simp)) h.1, bfs_inj (fun x hx => h1 x (by simp [hx])) (fun x hx => h2 x (by simp [hx])) h.2]
theorem byts (cs : List Int32) : cs.map byt = (cs.map bf).map Value.int := by rw [List.map_map]; rfl
theorem ints_inj : ∀ {xs ys : List Int32}, xs.map Value.int = ys.map Value.int → xs = ys
  | [], [], _ => rfl
  | [], d :: ds, h => by simp at h
  | c :: cs, [], h => by simp at h
  | c :: cs, d :: ds, h => by
    simp only [List.map_cons, List.cons.injEq, Value.int.injEq] at h
    rw [h.1, ints_inj h.2]
theorem Str.uniq {Z : State} {h : Heap} {a b b' : Addr} {cs ds : List Int32} (S : Str Z h a b cs) (S' : Str Z h a b' ds) : cs = ds := by
  have e := Value.ref.inj (Fld.uniq S.2.2.1 S'.2.2.1)
  subst e
  have q := Ary.uniq S.2.2.2.1 S'.2.2.2.1
  rw [byts, byts] at q
  exact bfs_inj S.2.2.2.2 S'.2.2.2.2 (ints_inj q)
theorem take_ext {xs ys : List Int32} {k : Nat} (hk : k < xs.length) (hk' : k < ys.length) (h : xs.take k = ys.take k) (e : xs[k] = ys[k]) : xs.take (k + 1) = ys.take (k + 1) := by
  rw [List.take_succ_eq_append_getElem hk, List.take_succ_eq_append_getElem hk', h, e]
theorem u32_mask31 (x : Int32) : u32 (x &&& 2147483647) = u32 x % 2147483648 := by rw [u32_and]; exact and_mask _ 31
theorem rem_pos {x y : Int32} {n : Nat} (hx : u32 x < 2147483648) (hy : y.toInt = (n : Int)) (hn : 0 < n) : (x % y).toInt = ((u32 x % n : Nat) : Int) := by
  rw [Int32.toInt_mod, toInt_u32 hx, hy]
  rfl
theorem small_of {x : Int32} {n : Nat} {k : Nat} (h : x.toInt = ((k % n : Nat) : Int)) (hn : 0 < n) : ∃ i : Fin n, x = Int32.ofInt (i.1 : Int) := by
  refine ⟨⟨k % n, Nat.mod_lt _ hn⟩, ?_⟩
  have := congrArg Int32.ofInt h
  rwa [Int32.ofInt_toInt] at this
end Jvm.Road
namespace Jvm.Road
open Jvm Jvm.ClassFile Sem Op Lib Jvm.Free Jvm.Stand Jvm.LawKit Jvm.RoadKit Bundle
section Start
variable {Z : State} {a : Addr} {args : Array Value} {t b : Term} {ty : FieldType}
theorem eq_int_of {n : Int32} (h : (Cond.eq t (Term.int n)).value args Z none Z [] = some true) : t.eval args Z none [] Z = some (.int n) := by
  obtain ⟨x, y, q1, q2, -, k2⟩ := cmp_v (Or.inl h)
  cases q2
  obtain ⟨z, rfl⟩ := k2
  have := gotT (Cond.eq_ints q1 (Term.int_eval n)) h
  rw [← this]; exact q1
theorem eq_ref_of {q : Addr} (h : (Cond.eq t b).value args Z none Z [] = some true) (hb : b.eval args Z none [] Z = some (.ref q)) : t.eval args Z none [] Z = some (.ref q) := by
  obtain ⟨x, y, q1, q2, -, k2⟩ := cmp_v (Or.inl h)
  cases hb.symm.trans q2
  have := gotT (eq_R q1 hb k2.2 rfl) h
  rw [← this]; exact q1
theorem len_lt {v : Value} (h : (Term.length t).eval args Z none [] Z = some v) (ev : t.eval args Z none [] Z = some (.ref a)) : ∃ c, Z.arrayAt? a = some c ∧ c.slots.size < 2 ^ 31 ∧ v = .int c.slots.size.toInt32 := by
  obtain ⟨x, c, e1, e2, e3⟩ := Term.length_spec h
  cases ev.symm.trans e1
  refine ⟨c, e2, ?_, e3⟩
  by_cases q : c.slots.size < 2 ^ 31
  · exact q
  · simp [Term.eval, ev, e2, q] at h
theorem Ary.start {n : Int32} {vs : List Value} (ev : t.eval args Z none [] Z = some (.ref a)) (hx : (Cond.arrayOf t ty).value args Z none Z [] = some true)
    (hl : (Cond.eq (Term.length t) (Term.int n)).value args Z none Z [] = some true) (hn : n.toInt = vs.length)
    (he : ∀ i, i < vs.length → ∃ j : Int32, j.toInt = (i : Int) ∧ (Term.elem t (Term.int j)).eval args Z none [] Z = vs[i]?) (hf : ∀ v ∈ vs, fits ty v = true) : Ary Z Z.heap a ty vs := by
  obtain ⟨c, A⟩ := Arr.start ev hx
  obtain ⟨c', e1, e2, e3⟩ := len_lt (eq_int_of hl) ev
  have e4 : Z.heap[a]? = some c' := (arrayAt_spec e1).1
  cases A.1.symm.trans e4
  have e5 : c.slots.size = vs.length := by
    have : n.toInt = (c.slots.size : Int) := by
      injection e3 with q; rw [q]; exact len_toInt e2
    omega
  refine ⟨c, A, ?_, by omega, hf⟩
  apply List.ext_getElem?
  intro i
  by_cases hi : i < vs.length
  · obtain ⟨j, j1, j2⟩ := he i hi
    rw [List.getElem?_eq_getElem hi] at j2 ⊢
    have := (elem_in j2 ev (Term.int_eval j) A.1).2
    rw [(ix_of j1).2] at this
    rw [Array.getElem?_toList]; exact this
  · rw [List.getElem?_eq_none (Nat.le_of_not_lt hi), List.getElem?_eq_none (by rw [Array.length_toList, e5]; exact Nat.le_of_not_lt hi)]
end Start
end Jvm.Road
namespace Jvm.Road
open Jvm Jvm.ClassFile Sem Op Lib Jvm.Free Jvm.Stand Jvm.LawKit Jvm.RoadKit Bundle
section Copy
variable {l : Launch} {Z : State} {a0 : Array Value} {EL : List (String × Nat)} {n0 : Nat} {kn : Bool} {B : Bdy} {D : Dyn} {Q : Post} {h : Heap} {σ : Addr → Prop} {ce sl : Nat} {Ls : Array Slot} {st : List Value} {a b : Addr}
theorem arv_of {ty : FieldType} {vs : List Value} (A : Ary Z h a ty vs) : ∃ k, Arv Z h a k ty (Nat.toInt32 vs.length) vs .null ∧ (Nat.toInt32 vs.length).toNatClampNeg = vs.length := by
  obtain ⟨c, A, e, q, f⟩ := A
  have e1 : (Nat.toInt32 vs.length).toInt = vs.length := len_toInt q
  have e2 := ix_of e1
  have e3 : c.slots.size = vs.length := by rw [← Array.length_toList, e]
  refine ⟨_, ⟨c, A, rfl, e3.trans e2.2.symm, e2.1, fun i hi => ?_, fun i hi => ?_⟩, e2.2⟩
  · rw [← Array.getElem?_toList, e, List.getElem?_eq_getElem (by omega), List.getD_eq_getElem?_getD, List.getElem?_eq_getElem (by omega)]; rfl
  · rw [List.getD_eq_getElem?_getD, List.getElem?_eq_getElem (by omega)]; exact f _ (List.getElem_mem _)
theorem stretch_eq (vs : List Value) (i n : Nat) (h : i + n ≤ vs.length) : (List.range n).map (fun k => vs.getD (i + k) .null) = (vs.drop i).take n := by
  apply List.ext_getElem?
  intro k
  by_cases hk : k < n
  · rw [List.getElem?_map, List.getElem?_range hk, List.getElem?_take_of_lt hk, List.getElem?_drop, List.getElem?_eq_getElem (by omega)]
    simp [List.getD_eq_getElem?_getD, List.getElem?_eq_getElem (show i + k < vs.length by omega)]
  · rw [List.getElem?_eq_none (by simp; omega), List.getElem?_eq_none (by simp; omega)]
theorem acopy (pc : Nat) {ix : Nat} {ty : FieldType} {vs vd : List Value} {sp dp nn : Int32} (i j n W : Nat) (hd : decode B.bs pc = .ok (.invokestatic ix, 3))
    (w1 : (Jvm.Cond.methodLink B.y.cls ix Jvm.Stand.acN).before a0 Z = true) (w2 : (Jvm.Cond.native Jvm.Stand.acN).before a0 Z = true) (w3 : (Jvm.Cond.static Jvm.Stand.acN).before a0 Z = true) (w4 : (Jvm.Cond.initialized "java/lang/System").before a0 Z = true)
    (A : Ary Z h a ty vs) (Ab : Ary Z h b ty vd) (hr : refKind ty = false) (h1 : sp.toInt = (i : Int)) (h2 : dp.toInt = (j : Int)) (h3 : nn.toInt = (n : Int)) (h4 : i + n ≤ vs.length) (h5 : j + n ≤ vd.length) (hσ : σ b)
    (hW : (st.map fun v => v.category).sum = W) (hsz : Ls.size = B.ml) (hf : 1 ≤ B.rm.frames) (hl : W + 18 ≤ B.rm.locals)
    (r : ∀ h', Keep h h' [b] → Ary Z h' b ty (vd.take j ++ (vs.drop i).take n ++ vd.drop (j + n)) → Go l Z a0 EL n0 kn B D Q h' σ ce sl (pc + 3) Ls st) :
    Go l Z a0 EL n0 kn B D Q h σ ce sl pc Ls (.int nn :: .int dp :: .ref b :: .int sp :: .ref a :: st) := by
  intro ok ew T vm0 I
  obtain ⟨k0, locs, X, g1, g2, g3, g4, g5, g6, g7, g8, g9, g10⟩ := I
  obtain ⟨k1, A1, z1⟩ := arv_of A
  obtain ⟨k2, A2, z2⟩ := arv_of Ab
  have ha := (g9 b hσ).real Ab.lt (g1 ▸ bound X g10.2)
  obtain ⟨s1, s1'⟩ := ix_of h1
  obtain ⟨s2, s2'⟩ := ix_of h2
  obtain ⟨s3, s3'⟩ := ix_of h3
  obtain ⟨T', h', L, X', e', N, K, A3, s'⟩ := cpA X ok.1 (s := D.s.setVm vm0) g4 g5 w1 w2 w3 w4 g1 A1 A2 (Or.inl ⟨rfl, hr⟩) (sp := sp) (dp := dp) (nn := nn) s1 s2 s3 (by rw [s1', s3', z1]; exact h4) (by rw [s2', s3', z2]; exact h5) rfl (by rw [s2', s3']; exact h5) g7 ha.2.1
    (g := mkF D.m pc Ls (.int nn :: .int dp :: .ref b :: .int sp :: .ref a :: st)) rfl (hsz.trans ok.2.2.1.symm) rfl (Jvm.hb ok.2.1 hd) hf (W := W) (by show 2 * 0 + _ ≤ _; rw [hW]; omega) (by show W + 18 ≤ _; exact hl)
  rw [s1', s2', s3', stretch_eq _ _ _ h4] at A3
  have hlen : (vd.take j ++ (vs.drop i).take n ++ vd.drop (j + n)).length = vd.length := by
    simp only [List.length_append, List.length_take, List.length_drop]; omega
  have hs : ∀ x ∈ [b], Safe Z EL vm0 h x := fun x hx => by cases List.mem_singleton.mp hx; exact ha.1
  obtain ⟨s2, o, q, rest⟩ := r h' K (Ary.of_arv A3 (by rw [z2, hlen])) ok ew T' vm0 ⟨k0, _, X', e', g2, Nat.le_trans g3 K.1, g4, g5, g6.trans (CHr.keep K hs g6.1), N, g8.keep K (fun x hx => by cases List.mem_singleton.mp hx; exact ha.2.1),
    fun x hx => (g9 x hx).imp (fun q => ⟨Safe.keep K hs g6.1 q.1, q.2.1, Nat.lt_of_lt_of_le q.2.2 K.1⟩) id, g10⟩
  exact ⟨s2, o, s' _ q, rest⟩
end Copy
theorem shl0 (x : Int32) : x <<< ((0 : Int32) &&& 31) = x := by
  apply Int32.toBitVec_inj.mp; simp [Int32.toBitVec_shiftLeft]
theorem sub32n {i j : Nat} (h : j ≤ i) : i.toInt32 - j.toInt32 = (i - j).toInt32 := by
  have e : (i - j).toInt32 + j.toInt32 = i.toInt32 := by rw [add32n, Nat.sub_add_cancel h]
  rw [← e, Int32.add_sub_cancel]
theorem gsub {m N : Nat} (hm : m < 2147483648) (hN : N < 2147483648) : (0 : Int32) < m.toInt32 - N.toInt32 ↔ N < m := by
  by_cases h : N ≤ m
  · rw [sub32n h, show (0 : Int32) = (0 : Nat).toInt32 from rfl, lt32 (by omega) (by omega)]; omega
  · have e : m.toInt32 - N.toInt32 = -((N - m).toInt32) := by rw [← sub32n (show m ≤ N by omega), Int32.neg_sub]
    rw [e, Int32.lt_iff_toInt_lt]
    have : (-((N - m).toInt32)).toInt = -((N - m : Nat) : Int) := by
      rw [Int32.toInt_neg, n32 (by omega)]
      rw [Int.bmod_eq_of_le] <;> omega
    rw [this]
    have : (0 : Int32).toInt = 0 := rfl
    omega
abbrev SB : String := "java/lang/StringBuilder"
abbrev AB : String := "java/lang/AbstractStringBuilder"
/-- the StringBuilder at a holds these chars; its bytes at b, of which there are N -/
def Sb (Z : State) (h : Heap) (a b : Addr) (cs : List Int32) (N : Nat) : Prop := Exa Z h a SB ∧ Fld Z h a AB "coder" "B" (.int 0) ∧ Fld Z h a AB "value" "[B" (.ref b) ∧ Fld Z h a AB "count" "I" (.int (Nat.toInt32 cs.length)) ∧ (∃ r : List Value, Ary Z h b .byte (cs.map byt ++ r) ∧ cs.length + r.length = N) ∧ (∀ c ∈ cs, 0 ≤ c.toInt ∧ c.toInt < 256)
section Builder
variable {Z : State} {h h' : Heap} {a b : Addr} {cs : List Int32} {N : Nat} {ws : List Addr}
theorem Sb.keep (F : Sb Z h a b cs N) (K : Keep h h' ws) (q : a ∉ ws) (q' : b ∉ ws) : Sb Z h' a b cs N := by
  obtain ⟨f1, f2, f3, f4, ⟨r, f5, f6⟩, f7⟩ := F
  exact ⟨f1.keep K, f2.keep K q, f3.keep K q, f4.keep K q, ⟨r, f5.keep K q', f6⟩, f7⟩
theorem Sb.lt (F : Sb Z h a b cs N) : a < h.size := F.1.lt
theorem Sb.ltb (F : Sb Z h a b cs N) : b < h.size := by obtain ⟨_, _, _, _, ⟨r, f5, -⟩, _⟩ := F; exact f5.lt
theorem Sb.le (F : Sb Z h a b cs N) : cs.length ≤ N := by obtain ⟨_, _, _, _, ⟨r, -, f6⟩, _⟩ := F; omega
theorem Sb.small (F : Sb Z h a b cs N) : N < 2147483648 := by obtain ⟨_, _, _, _, ⟨r, f5, f6⟩, _⟩ := F; have := f5.small; simp only [List.length_append, List.length_map] at this; omega
theorem put_str (cs ds : List Int32) (r : List Value) (hl : ds.length ≤ r.length) : (cs.map byt ++ r).take cs.length ++ ((ds.map byt).drop 0).take ds.length ++ (cs.map byt ++ r).drop (cs.length + ds.length) = (cs ++ ds).map byt ++ r.drop ds.length := by
  have e1 : (cs.map byt).length = cs.length := List.length_map _
  have e2 : (ds.map byt).length = ds.length := List.length_map _
  rw [List.take_append_of_le_length (by omega), List.take_of_length_le (by omega), List.drop_zero, List.take_of_length_le (by omega), List.map_append, ← e1, ← List.drop_drop, List.drop_left]
theorem put_chr (cs : List Int32) (x : Int32) (r : List Value) (hl : 1 ≤ r.length) : (cs.map byt ++ r).set cs.length (byt x) = (cs ++ [x]).map byt ++ r.drop 1 := by
  have e1 : (cs.map byt).length = cs.length := List.length_map _
  cases r with
  | nil => simp at hl
  | cons v r => rw [List.set_append_right _ _ (by omega), e1, Nat.sub_self]; simp
theorem keep1 (K : Keep h h' [a]) : Keep h h' [a, b] := ⟨K.1, fun x c q r => K.2.1 x c q (fun z => r (by cases List.mem_singleton.mp z; simp)), K.2.2⟩
theorem keep2 {h2 : Heap} (K : Keep h h' [b]) (K' : Keep h' h2 [a]) : Keep h h2 [a, b] :=
  Keep.trans (ws := [a, b]) ⟨K.1, fun x c q r => K.2.1 x c q (fun z => r (by cases List.mem_singleton.mp z; simp)), K.2.2⟩ K' (by simp)
theorem keep2' {h2 : Heap} (K : Keep h h' [a]) (K' : Keep h' h2 [b]) : Keep h h2 [a, b] :=
  Keep.trans (ws := [a, b]) ⟨K.1, fun x c q r => K.2.1 x c q (fun z => r (by cases List.mem_singleton.mp z; simp)), K.2.2⟩ K' (by simp)
end Builder
end Jvm.Road

namespace Jvm.Road
open Jvm Jvm.ClassFile Sem Op Lib Jvm.Free Jvm.Stand Jvm.LawKit Jvm.RoadKit Bundle
theorem keep_sub {h h' : Heap} {ws ws' : List Addr} (K : Keep h h' ws) (q : ∀ x ∈ ws, x ∈ ws') : Keep h h' ws' := ⟨K.1, fun x c e n => K.2.1 x c e (fun z => n (q x z)), K.2.2⟩
end Jvm.Road
namespace Jvm.Road
open Jvm Jvm.ClassFile Sem Op Lib Jvm.Free Jvm.Stand Jvm.LawKit Jvm.RoadKit Bundle
/-- a method's class is no interface, by another method of the same class -/
theorem notFace_sib {args : Array Value} {s : State} {C : String} {x y z : MethodName} (hsel : (Jvm.Cond.selects C x y).before args s = true) (e : z.cls = y.cls) : NotFace s z := fun r0 h0 => by
  obtain ⟨c2, r2, m2, q1, q2, q3, q4, kP, hkP, hkPi⟩ := Cond.selects_spec hsel
  have e1 := findClass_of_methodNamed h0
  have e2 := findClass_of_methodNamed q3
  rw [e] at e1
  have e3 := Option.some.inj (e1.symm.trans e2)
  exact ⟨kP, by rw [e3]; exact hkP, hkPi⟩
theorem same_of {args : Array Value} {s : State} {y : MethodName} (hi : (Jvm.Cond.instanceMethod y).before args s = true) (nf : NotFace s y) (hy : y.cls ≠ "java/lang/invoke/MethodHandle" ∧ y.cls ≠ "java/lang/invoke/VarHandle") : (Jvm.Cond.sameMethod y.cls y.cls y.name y.desc).before args s = true := by
  obtain ⟨mk, meth, hnamed, -⟩ := Cond.instanceMethod_spec hi
  have h1 := findClass_of_methodNamed hnamed
  have h2 := State.methodFound?_of_named hnamed hy
  obtain ⟨kr, hk, hni⟩ := nf _ hnamed
  simp [Cond.before, Cond.holds, Cond.value, h1, h2, hnamed, hk, hni]
section Calls2
variable {l : Launch} {Z : State} {a0 : Array Value} {EL : List (String × Nat)} {n0 : Nat} {kn : Bool} {B B' : Bdy} {D : Dyn} {Q Q' : Post} {h : Heap} {σ : Addr → Prop} {ce sl : Nat} {Ls : Array Slot} {st : List Value} {a : Addr}
/-- a private method by invokevirtual -/
theorem callP (pc : Nat) {ix : Nat} {argsL rest : List Value} (C : String) (W : Nat) (hd : decode B.bs pc = .ok (.invokevirtual ix, 3)) (w1 : (Jvm.Cond.methodLink B.y.cls ix B'.y).before a0 Z = true) (w2 : (Jvm.Cond.privateMethod B'.y).before a0 Z = true) (w5 : (Jvm.Cond.selects C B'.y B'.y).before a0 Z = true) (w6 : (Jvm.Cond.instanceMethod B'.y).before a0 Z = true) (w3 : (Jvm.Cond.initialized B'.y.cls).before a0 Z = true) (w4 : (Jvm.Cond.code B'.y B'.bs B'.ml B'.rt).before a0 Z = true) (hy : notMH B'.y)
    (E : Exa Z h a C) (hM : Con l Z EL n0 kn B' [] σ (.ref a :: argsL).toArray h Q') (hlen : ∀ sig, parseMethodDescriptor B'.y.desc = some sig → argsL.length = sig.parameters.length) (hst : st = argsL.reverse ++ .ref a :: rest) (hW : (rest.map fun v => v.category).sum = W) (hsz : Ls.size = B.ml)
    (hf : B'.rm.frames + 1 ≤ B.rm.frames) (hl : W + (B'.ml + 11) + B'.rm.locals ≤ B.rm.locals) {ce' sl' : Nat} (hce : ce + B'.rm.cells = ce') (hsl : sl + B'.rm.slots = sl') (hc : ce' ≤ B.rm.cells) (hs : sl' ≤ B.rm.slots)
    (r : ∀ v h' σ', (∀ x, σ x → σ' x) → Q' v h' σ' → Go l Z a0 EL n0 kn B D Q h' σ' ce' sl' (pc + 3) Ls (push v rest)) : Go l Z a0 EL n0 kn B D Q h σ ce sl pc Ls st := by
  subst hce hsl
  refine called W hM w4 w3 hf hl hc hs (fun T vm0 locs X h1 h4 h5 ok {Pre Pst} hB hpre => ?_) r
  obtain ⟨mk, methM, hnamed, hmethM, hstM, habM⟩ := Cond.instanceMethod_spec (mv (s := D.s.setVm vm0) (args := D.args) h4 w6)
  obtain ⟨methM', cM, hmethM', -, -, -, -, -, -, hsigM⟩ := Cond.code_spec hnamed (mv (s := D.s.setVm vm0) (args := D.args) h4 w4)
  cases hmethM.symm.trans hmethM'
  obtain ⟨c2, r2, m2, -, -, q3, -, kP, hkP, hkPi⟩ := Cond.selects_spec (mv (s := D.s.setVm vm0) (args := D.args) h4 w5)
  cases hnamed.symm.trans q3
  have hpriv := Cond.privateMethod_at (mvP (s := D.s.setVm vm0) (args := D.args) h4 w2)
  obtain ⟨cell, k, hcell, -, -, hns, -⟩ := E
  have hselP : selectMethod D.e.platform (D.s.setVm vm0).vm cell.cls mk = .method mk := selectMethod_private hmethM (hpriv mk methM hnamed hmethM)
  obtain ⟨vm₁, X₁, hstep₁⟩ := X.invokevirtual ok.1 (s := D.s.setVm vm0) h5 (mv (s := D.s.setVm vm0) h4 w1) hnamed hmethM hstM hkP hkPi hy (a := a) (cell := cell) (by rw [h1]; exact hcell) (fun q e => by rw [e] at hns; cases hns) hselP hmethM habM hkP hkPi (g := mkF D.m pc Ls st) rfl (argsL := argsL) (rest := rest) (hlen _ hsigM) hst (Jvm.hb ok.2.1 hd)
  obtain ⟨v, Bp, X', hS, hgr, hpost, hsteps⟩ := hB D.m D.meth D.c ⟨T.setVm vm₁, locs, ce, sl⟩ { mkF D.m pc Ls st with stack := rest } (.invokevirtual ix) mk (.ref a :: argsL).toArray X₁ rfl (hsz.trans ok.2.2.1.symm) (Jvm.hb ok.2.1 hd) (by show 2 * 0 + _ ≤ _; rw [hW]; omega) (X₁.named hnamed) (hpre vm₁ X₁.warmed)
  exact ⟨v, vm₁, Bp, X₁.warmed, X', hS, hgr, hpost, (hstep₁ _ fun acts => by rw [doInvoke_state]; exact Steps.refl _).trans hsteps⟩
/-- super.m(..) -/
theorem callUp (pc : Nat) {ix : Nat} {argsL rest : List Value} (C : String) (W : Nat) (hd : decode B.bs pc = .ok (.invokespecial ix, 3)) (w1 : (Jvm.Cond.methodLink B.y.cls ix B'.y).before a0 Z = true) (nf : NotFace Z B'.y) (w6 : (Jvm.Cond.instanceMethod B'.y).before a0 Z = true) (w7 : (Jvm.Cond.superclass B.y.cls B'.y.cls).before a0 Z = true) (w3 : (Jvm.Cond.initialized B'.y.cls).before a0 Z = true) (w4 : (Jvm.Cond.code B'.y B'.bs B'.ml B'.rt).before a0 Z = true) (hn : B'.y.name ≠ "<init>") (hy : notMH B'.y)
    (E : Exa Z h a C) (hM : Con l Z EL n0 kn B' [] σ (.ref a :: argsL).toArray h Q') (hlen : ∀ sig, parseMethodDescriptor B'.y.desc = some sig → argsL.length = sig.parameters.length) (hst : st = argsL.reverse ++ .ref a :: rest) (hW : (rest.map fun v => v.category).sum = W) (hsz : Ls.size = B.ml)
    (hf : B'.rm.frames + 1 ≤ B.rm.frames) (hl : W + (B'.ml + 11) + B'.rm.locals ≤ B.rm.locals) {ce' sl' : Nat} (hce : ce + B'.rm.cells = ce') (hsl : sl + B'.rm.slots = sl') (hc : ce' ≤ B.rm.cells) (hs : sl' ≤ B.rm.slots)
    (r : ∀ v h' σ', (∀ x, σ x → σ' x) → Q' v h' σ' → Go l Z a0 EL n0 kn B D Q h' σ' ce' sl' (pc + 3) Ls (push v rest)) : Go l Z a0 EL n0 kn B D Q h σ ce sl pc Ls st := by
  subst hce hsl
  exact called W hM w4 w3 hf hl hc hs (fun T vm0 locs X h1 h4 h5 ok {Pre Pst} hB hpre =>
    superBackS X ok.1 (s := D.s.setVm vm0) h4 h5 w1 (same_of w6 nf hy) w6 w7 hn hB h1 (Ins.self E) (g := mkF D.m pc Ls st) rfl (hsz.trans ok.2.2.1.symm) w4 (argsL := argsL) (rest := rest) hlen hst (by show 2 * 0 + _ ≤ _; rw [hW]; omega) (Jvm.hb ok.2.1 hd) hpre) r
end Calls2
end Jvm.Road
namespace Jvm.Road
open Jvm Jvm.ClassFile Sem Op Lib Jvm.Free Jvm.Stand Jvm.LawKit Jvm.RoadKit Bundle
/-- a digit's char -/
def dc (k : Nat) : Int32 := Nat.toInt32 (48 + k)
def decN (n : Nat) : List Int32 := if n < 10 then [dc n] else decN (n / 10) ++ [dc (n % 10)]
termination_by n
theorem decN_lt {n : Nat} (h : n < 10) : decN n = [dc n] := by rw [decN, if_pos h]
theorem decN_ge {n : Nat} (h : 10 ≤ n) : decN n = decN (n / 10) ++ [dc (n % 10)] := by rw [decN, if_neg (by omega)]
theorem decN_100 {n : Nat} (h : 100 ≤ n) : decN n = decN (n / 100) ++ [dc (n % 100 / 10), dc (n % 100 % 10)] := by
  rw [decN_ge (by omega), decN_ge (show 10 ≤ n / 10 by omega), List.append_assoc, Nat.div_div_eq_div_mul, show n / 10 % 10 = n % 100 / 10 by omega, show n % 10 = n % 100 % 10 by omega]; rfl
theorem decN_len : ∀ (k n : Nat), n < 10 ^ (k + 1) → (k = 0 ∨ 10 ^ k ≤ n) → (decN n).length = k + 1
  | 0, n, h, _ => by rw [decN_lt (by simpa using h)]; rfl
  | k + 1, n, h, q => by
    have q : 10 ^ (k + 1) ≤ n := q.resolve_left (by omega)
    have e : 10 ^ (k + 1 + 1) = 10 ^ (k + 1) * 10 := Nat.pow_succ ..
    have e2 : 10 ^ (k + 1) = 10 ^ k * 10 := Nat.pow_succ ..
    have e3 : 0 < 10 ^ k := Nat.pow_pos (by omega)
    rw [decN_ge (by omega), List.length_append, decN_len k (n / 10) (by omega) (by by_cases hk : k = 0; exact Or.inl hk; exact Or.inr (by omega))]; rfl
theorem decN_pos (n : Nat) : 1 ≤ (decN n).length := by
  rw [decN]; split
  · simp
  · simp
theorem dc_int {k : Nat} (h : k < 10) : (dc k).toInt = 48 + k := by unfold dc; rw [n32 (by omega)]; omega
theorem decN_lat (n : Nat) : ∀ c ∈ decN n, 0 ≤ c.toInt ∧ c.toInt < 256 := by
  induction n using Nat.strongRecOn with
  | _ n ih =>
    intro c hc
    by_cases h : n < 10
    · rw [decN_lt h] at hc; cases List.mem_singleton.mp hc; rw [dc_int h]; omega
    · rw [decN_ge (by omega)] at hc
      rcases List.mem_append.mp hc with q | q
      · exact ih _ (by omega) c q
      · cases List.mem_singleton.mp q; rw [dc_int (by omega)]; omega
theorem decN_get : ∀ (n i : Nat) (hi : i < (decN n).length), (decN n)[i] = dc (n / 10 ^ ((decN n).length - 1 - i) % 10) := by
  intro n
  induction n using Nat.strongRecOn with
  | _ n ih =>
    intro i hi
    by_cases h : n < 10
    · simp only [decN_lt h, List.length_singleton] at hi ⊢
      have : i = 0 := by omega
      subst this
      simp [Nat.mod_eq_of_lt h]
    · have e := decN_ge (show 10 ≤ n by omega)
      have hl : (decN n).length = (decN (n / 10)).length + 1 := by rw [e, List.length_append]; rfl
      by_cases hk : i < (decN (n / 10)).length
      · have h1 : (decN n)[i] = (decN (n / 10))[i] := by simp only [e]; rw [List.getElem_append_left hk]
        rw [h1, ih _ (by omega) i hk, hl]
        have e2 : (decN (n / 10)).length + 1 - 1 - i = ((decN (n / 10)).length - 1 - i) + 1 := by omega
        rw [e2, Nat.pow_succ, Nat.mul_comm, Nat.div_div_eq_div_mul]
      · have hi2 : i = (decN (n / 10)).length := by omega
        have h1 : (decN n)[i] = dc (n % 10) := by simp only [e]; rw [List.getElem_append_right (by omega)]; simp [hi2]
        rw [h1, hl, hi2]; simp
/-- an int in decimal -/
def dec (x : Int32) : List Int32 := if x.toInt < 0 then 45 :: decN x.toInt.natAbs else decN x.toInt.natAbs
theorem dec_lat (x : Int32) : ∀ c ∈ dec x, 0 ≤ c.toInt ∧ c.toInt < 256 := by
  intro c hc; unfold dec at hc; split at hc
  · rcases List.mem_cons.mp hc with q | q
    · rw [q]; decide
    · exact decN_lat _ c q
  · exact decN_lat _ c hc
theorem set_last (U T : List Value) (v : Value) (P : Nat) (h : U.length = P + 1) : (U ++ T).set P v = U.take P ++ v :: T := by
  rw [List.set_append_left _ _ (by omega), List.set_eq_take_append_cons_drop, if_pos (by omega), List.drop_of_length_le (by omega), List.append_assoc]; rfl
theorem put_wr (cs ds : List Int32) (r : List Value) (hl : ds.length ≤ r.length) : (cs.map byt ++ r).take cs.length ++ (ds.map byt ++ (cs.map byt ++ r).drop (cs.length + ds.length)) = (cs ++ ds).map byt ++ r.drop ds.length := by
  have e1 : (cs.map byt).length = cs.length := List.length_map _
  rw [List.take_append_of_le_length (by omega), List.take_of_length_le (by omega), List.map_append, ← e1, ← List.drop_drop, List.drop_left, List.append_assoc]
def OnesL : List Value := (List.range 100).map fun i => byt (dc (i % 10))
def TensL : List Value := (List.range 100).map fun i => byt (dc (i / 10))
theorem ones_at {k : Nat} (h : k < 100) : OnesL[k]? = some (byt (dc (k % 10))) := by unfold OnesL; rw [List.getElem?_map, List.getElem?_range h]; rfl
theorem tens_at {k : Nat} (h : k < 100) : TensL[k]? = some (byt (dc (k / 10))) := by unfold TensL; rw [List.getElem?_map, List.getElem?_range h]; rfl
theorem byt_dc {k : Nat} (h : k < 10) : byt (dc k) = .int (dc k) := (by decide +kernel : ∀ i : Fin 10, byt (dc i.1) = .int (dc i.1)) ⟨k, h⟩
theorem nar_dc {k : Nat} (h : k < 10) : nar .byte (dc k) = dc k := (by decide +kernel : ∀ i : Fin 10, nar .byte (dc i.1) = dc i.1) ⟨k, h⟩
theorem div100 {x : Int32} {m : Nat} (hm : m ≤ 2147483648) (hx : x.toInt = -(m : Int)) : (x / 100).toInt = -((m / 100 : Nat) : Int) := by
  rw [Int32.toInt_div, hx, show (100 : Int32).toInt = 100 from rfl, Int.neg_tdiv]
  rw [show (m : Int).tdiv 100 = ((m / 100 : Nat) : Int) by rw [Int.tdiv_eq_ediv_of_nonneg (by omega)]; omega]
  rw [Int.bmod_eq_of_le] <;> omega
theorem rem100 {x : Int32} {m : Nat} (hm : m ≤ 2147483648) (hx : x.toInt = -(m : Int)) : (x / 100 * 100 - x).toInt = ((m % 100 : Nat) : Int) := by
  have h1 := div100 hm hx
  rw [Int32.toInt_sub, Int32.toInt_mul, h1, hx, show (100 : Int32).toInt = 100 from rfl]
  rw [Int.bmod_eq_of_le (n := -((m / 100 : Nat) : Int) * 100) (by omega) (by omega)]
  rw [Int.bmod_eq_of_le] <;> omega
theorem neg_int {x : Int32} {m : Nat} (hm : m < 2147483648) (hx : x.toInt = -(m : Int)) : (-x).toInt = (m : Int) := by
  rw [Int32.toInt_neg, hx, Int.bmod_eq_of_le] <;> omega
theorem neg_nat {x : Int32} (hx : 0 ≤ x.toInt) : (-x).toInt = -((x.toInt.natAbs : Nat) : Int) := by
  have := Int32.toInt_lt x
  rw [Int32.toInt_neg, Int.bmod_eq_of_le] <;> omega
theorem nat_le (x : Int32) : x.toInt.natAbs ≤ 2147483648 := by
  have := Int32.toInt_lt x; have := Int32.le_toInt x; omega
theorem lt0 (x : Int32) : x < 0 ↔ x.toInt < 0 := by rw [Int32.lt_iff_toInt_lt]; rfl
theorem pred32 (i : Nat) : (i + 1).toInt32 + (-1) = i.toInt32 := by rw [← succ32, Int32.add_assoc]; exact Int32.add_zero _
theorem decN_le : ∀ (k n : Nat), n < 10 ^ (k + 1) → (decN n).length ≤ k + 1
  | 0, n, h => by rw [decN_lt (by simpa using h)]; exact Nat.le_refl _
  | k + 1, n, h => by
    by_cases q : n < 10
    · rw [decN_lt q]; simp
    · have e : 10 ^ (k + 1 + 1) = 10 ^ (k + 1) * 10 := Nat.pow_succ ..
      rw [decN_ge (by omega), List.length_append]
      have := decN_le k (n / 10) (by omega)
      simp only [List.length_singleton]; omega
theorem dec_le (x : Int32) : (dec x).length ≤ 11 := by
  have h := decN_le 9 x.toInt.natAbs (by have := nat_le x; omega)
  unfold dec; split
  · rw [List.length_cons]; omega
  · omega
theorem dec_pos (x : Int32) : 1 ≤ (dec x).length := by
  unfold dec; split
  · simp
  · exact decN_pos _
def PWL : List Value := [.long 1, .long 10, .long 100, .long 1000, .long 10000, .long 100000, .long 1000000, .long 10000000, .long 100000000, .long 1000000000]
def pw (e : Nat) : Int64 := Int64.ofNat (10 ^ e)
theorem pw_at {e : Nat} (h : e < 10) : PWL[e]? = some (.long (pw e)) := (fun | 0 => rfl | 1 => rfl | 2 => rfl | 3 => rfl | 4 => rfl | 5 => rfl | 6 => rfl | 7 => rfl | 8 => rfl | 9 => rfl : ∀ i : Fin 10, PWL[i.1]? = some (.long (pw i.1))) ⟨e, h⟩
theorem pw_int {e : Nat} (h : e < 10) : (pw e).toInt = ((10 ^ e : Nat) : Int) := (by decide +kernel : ∀ i : Fin 10, (pw i.1).toInt = ((10 ^ i.1 : Nat) : Int)) ⟨e, h⟩
theorem pw_ne {e : Nat} (h : e < 10) : pw e ≠ 0 := (by decide +kernel : ∀ i : Fin 10, pw i.1 ≠ 0) ⟨e, h⟩
theorem ldiv_nat {v w : Int64} {m k : Nat} (hm : m ≤ 2147483648) (hk : 0 < k) (hv : v.toInt = (m : Int)) (hw : w.toInt = (k : Int)) : (v / w).toInt = ((m / k : Nat) : Int) := by
  have hle : m / k ≤ m := Nat.div_le_self m k
  rw [Int64.toInt_div, hv, hw, Int.tdiv_eq_ediv_of_nonneg (by omega), ← Int.natCast_ediv]
  generalize m / k = c at *
  rw [Int.bmod_eq_of_le] <;> omega
theorem lrem_nat {v : Int64} {m : Nat} (hm : m ≤ 2147483648) (hv : v.toInt = (m : Int)) : (v - v / 10 * 10).toInt = ((m % 10 : Nat) : Int) := by
  have h1 := ldiv_nat (w := 10) (k := 10) hm (by omega) hv rfl
  rw [Int64.toInt_sub, Int64.toInt_mul, h1, hv, show (10 : Int64).toInt = 10 from rfl]
  rw [Int.bmod_eq_of_le (n := ((m / 10 : Nat) : Int) * 10) (by omega) (by omega)]
  rw [Int.bmod_eq_of_le] <;> omega
theorem l2i_nat {v : Int64} {m : Nat} (hm : m < 2147483648) (hv : v.toInt = (m : Int)) : v.toInt32 = Nat.toInt32 m := by
  apply Int32.toInt_inj.mp
  rw [n32 hm, Int64.toInt_toInt32, hv, Int.bmod_eq_of_le] <;> omega
theorem digit_chr {k : Nat} (h : k < 10) : chr ((48 : Int32) + Nat.toInt32 k) = dc k := (by decide +kernel : ∀ i : Fin 10, chr ((48 : Int32) + Nat.toInt32 i.1) = dc i.1) ⟨k, h⟩
theorem digit_char {k : Nat} (h : k < 10) : nar .char (chr ((48 : Int32) + Nat.toInt32 k)) = dc k := (by decide +kernel : ∀ i : Fin 10, nar .char (chr ((48 : Int32) + Nat.toInt32 i.1)) = dc i.1) ⟨k, h⟩
theorem i2l_int (x : Int32) : (Int32.toInt64 x).toInt = x.toInt := Int32.toInt_toInt64 x
theorem lneg_nat {v : Int64} {m : Nat} (hm : m ≤ 2147483648) (hv : v.toInt = -(m : Int)) : (-v).toInt = (m : Int) := by
  rw [Int64.toInt_neg, hv, Int.bmod_eq_of_le] <;> omega
theorem decN_list (m : Nat) : decN m = (List.range (decN m).length).map (fun j => dc (m / 10 ^ ((decN m).length - 1 - j) % 10)) := by
  apply List.ext_getElem (by simp)
  intro i h1 h2
  rw [decN_get m i h1, List.getElem_map, List.getElem_range]
theorem nar_dcc {k : Nat} (h : k < 10) : nar .char (dc k) = dc k := (by decide +kernel : ∀ i : Fin 10, nar .char (dc i.1) = dc i.1) ⟨k, h⟩
theorem buf_set {pre : List Int32} {c : Int32} {r k : Nat} (h : k < r) : (pre.map Value.int ++ List.replicate (r - k) (Value.int 0)).set pre.length (Value.int c) = (pre ++ [c]).map Value.int ++ List.replicate (r - (k + 1)) (Value.int 0) := by
  have e1 : (pre.map Value.int).length = pre.length := List.length_map _
  rw [show r - k = (r - (k + 1)) + 1 from by omega, List.set_append_right _ _ (by omega), e1, Nat.sub_self, List.replicate_succ]; simp
theorem rem3 (x : Int32) : (x &&& 1073741823) % 3 = 0 ∨ (x &&& 1073741823) % 3 = 1 ∨ (x &&& 1073741823) % 3 = 2 := by
  have h1 : (x &&& 1073741823).toInt = ((x.toBitVec &&& 1073741823#32).toInt) := rfl
  have h2 : (x.toBitVec &&& 1073741823#32).toNat ≤ 1073741823 := by rw [BitVec.toNat_and]; exact Nat.and_le_right
  have h3 : (x &&& 1073741823).toInt = ((x.toBitVec &&& 1073741823#32).toNat : Int) := by rw [h1, BitVec.toInt_eq_toNat_of_lt (by omega)]
  have h4 : ((x &&& 1073741823) % 3).toInt = (x &&& 1073741823).toInt % 3 := by
    rw [Int32.toInt_mod, show (3 : Int32).toInt = 3 from rfl, Int.tmod_eq_emod_of_nonneg (by omega)]
  have h5 : ∀ k : Int32, ((x &&& 1073741823) % 3).toInt = k.toInt → (x &&& 1073741823) % 3 = k := fun k q => Int32.toInt_inj.mp q
  have e : (x &&& 1073741823).toInt % 3 = 0 ∨ (x &&& 1073741823).toInt % 3 = 1 ∨ (x &&& 1073741823).toInt % 3 = 2 := by omega
  rcases e with e | e | e
  · exact Or.inl (h5 0 (by rw [h4, e]; rfl))
  · exact Or.inr (Or.inl (h5 1 (by rw [h4, e]; rfl)))
  · exact Or.inr (Or.inr (h5 2 (by rw [h4, e]; rfl)))
end Jvm.Road
namespace Jvm.Road
open Jvm Jvm.ClassFile Sem Op Lib Jvm.Free Jvm.Stand Jvm.LawKit Jvm.RoadKit Bundle
section Boot
variable {Z : State} {a : Addr} {args a0 : Array Value}
theorem Ary.boot {C n d : String} {k : Int32} {vs : List Value} {body : Term} (ev : (Term.static C n d).eval args Z none [] Z = some (.ref a)) (hx : (Cond.exactly (Term.static C n d) "[B").value args Z none Z [] = some true)
    (wa : (Jvm.Cond.arrayClass .byte).before a0 Z = true) (hl : (Cond.eq (Term.length (Term.static C n d)) (Term.int k)).value args Z none Z [] = some true) (hn : k.toInt = vs.length)
    (hall : (Cond.all (Term.static C n d) (Cond.eq (Term.elem (Term.static C n d) (Term.index 0)) body)).value args Z none Z [] = some true)
    (hb : ∀ i, i < vs.length → ∃ w, vs[i]? = some (.int w) ∧ fits .byte (.int w) = true ∧ body.eval args Z none [i] Z = some (.int w)) : Ary Z Z.heap a .byte vs := by
  obtain ⟨c, e1, e2, e3⟩ := len_lt (eq_int_of hl) ev
  have e4 := (arrayAt_spec e1).1
  have e5 : c.slots.size = vs.length := by
    have : k.toInt = (c.slots.size : Int) := by
      injection e3 with q; rw [q]; exact len_toInt e2
    omega
  obtain ⟨cell, kk, g1, g2, g3, g4, -⟩ := Exa.start ev hx
  cases e4.symm.trans g1
  obtain ⟨cA, kA, comp, hfind, hk, hkind⟩ := Cond.arrayClass_spec wa
  have hfind : Z.vm.findClass "[B" = some cA := hfind
  cases g2.symm.trans hfind
  have A : Arr Z Z.heap a c .byte := ⟨e4, ⟨(fun q e => by rw [e] at g4; cases g4), kA, hk, comp, hkind⟩, arrayAt_known e1⟩
  have hat : ∀ i, i < vs.length → c.slots[i]? = vs[i]? ∧ ∃ w, vs[i]? = some (.int w) ∧ fits .byte (.int w) = true := fun i hi => by
    obtain ⟨w, w1, w2, w3⟩ := hb i hi
    have q := Cond.all_elim ev e1 hall i (by omega)
    obtain ⟨x, y, q1, q2, -, k2⟩ := cmp_v (Or.inl q)
    cases w3.symm.trans q2
    obtain ⟨z, rfl⟩ := k2
    have r := gotT (Cond.eq_ints q1 w3) q
    subst r
    have hj : (Term.index 0).eval args Z none [i] Z = some (.int (Nat.toInt32 i)) := rfl
    have ev' : (Term.static C n d).eval args Z none [i] Z = some (.ref a) := ev
    have := (elem_in q1 ev' hj e4).2
    rw [(ix_of (n32 (i := i) (by omega))).2] at this
    exact ⟨this.trans w1.symm, _, w1, w2⟩
  refine ⟨c, A, ?_, by omega, fun v hv => ?_⟩
  · apply List.ext_getElem?
    intro i
    by_cases hi : i < vs.length
    · rw [Array.getElem?_toList]; exact (hat i hi).1
    · rw [List.getElem?_eq_none (Nat.le_of_not_lt hi), List.getElem?_eq_none (by rw [Array.length_toList, e5]; exact Nat.le_of_not_lt hi)]
  · obtain ⟨i, hi, rfl⟩ := List.getElem_of_mem hv
    obtain ⟨-, w, w1, w2⟩ := hat i hi
    rw [List.getElem?_eq_getElem hi] at w1
    rw [Option.some.inj w1]; exact w2
theorem ones_boot : ∀ i, i < OnesL.length → ∃ w, OnesL[i]? = some (.int w) ∧ fits .byte (.int w) = true ∧ (Term.add (Term.int 48) (Term.rem (Term.index 0) (Term.int 10))).eval args Z none [i] Z = some (.int w) := fun i hi => by
  have hi : i < 100 := by simpa [OnesL] using hi
  refine ⟨dc (i % 10), by rw [ones_at hi, byt_dc (by omega)], (by decide +kernel : ∀ i : Fin 10, fits .byte (.int (dc i.1)) = true) ⟨i % 10, by omega⟩, ?_⟩
  simp only [Term.eval, List.getElem?_cons_zero, Option.map_some, Option.bind_eq_bind, Option.bind_some]
  have := (by decide +kernel : ∀ i : Fin 100, (48 : Int32) + (Nat.toInt32 i.1) % 10 = dc (i.1 % 10)) ⟨i, hi⟩
  simpa using this
theorem tens_boot : ∀ i, i < TensL.length → ∃ w, TensL[i]? = some (.int w) ∧ fits .byte (.int w) = true ∧ (Term.add (Term.int 48) (Term.div (Term.index 0) (Term.int 10))).eval args Z none [i] Z = some (.int w) := fun i hi => by
  have hi : i < 100 := by simpa [TensL] using hi
  refine ⟨dc (i / 10), by rw [tens_at hi, byt_dc (by omega)], (by decide +kernel : ∀ i : Fin 10, fits .byte (.int (dc i.1)) = true) ⟨i / 10, by omega⟩, ?_⟩
  simp only [Term.eval, List.getElem?_cons_zero, Option.map_some, Option.bind_eq_bind, Option.bind_some]
  have := (by decide +kernel : ∀ i : Fin 100, (48 : Int32) + (Nat.toInt32 i.1) / 10 = dc (i.1 / 10)) ⟨i, hi⟩
  simpa using this
end Boot
end Jvm.Road
namespace Jvm.Road
open Jvm Jvm.ClassFile Sem Op Lib Jvm.Free Jvm.Stand Jvm.LawKit Jvm.RoadKit Bundle
/-- the array at a is over the class C -/
def Ova (Z : State) (h : Heap) (a : Addr) (C : String) : Prop := ∃ cell : Cell, h[a]? = some cell ∧ Ovr Z cell.cls C
theorem Ova.keep {Z : State} {h h' : Heap} {a : Addr} {C : String} {ws : List Addr} (F : Ova Z h a C) (K : Keep h h' ws) : Ova Z h' a C := by
  obtain ⟨c, e, O⟩ := F
  obtain ⟨c', e', q, -⟩ := K.2.2 a c e
  exact ⟨c', e', by rw [q]; exact O⟩
section Refs
variable {l : Launch} {Z : State} {a0 : Array Value} {EL : List (String × Nat)} {n0 : Nat} {kn : Bool} {B B' : Bdy} {D : Dyn} {Q Q' : Post} {h : Heap} {σ : Addr → Prop} {ce sl : Nat} {Ls : Array Slot} {st : List Value} {a : Addr}
theorem anewarray (pc : Nat) {ix : Nat} (C : String) (n cap : Nat) {z : Int32} (hd : decode B.bs pc = .ok (.anewarray ix, 3)) (w1 : (Jvm.Cond.classLink B.y.cls ix C).before a0 Z = true) (w2 : (Jvm.Cond.arrayOver (.object C)).before a0 Z = true) (hz : z.toInt = (n : Int)) (hcap : n ≤ cap) (hb : cap * 8 ≤ 536870912) {ce' sl' : Nat} (hce : ce + 1 = ce') (hsl : sl + cap = sl') (hc : ce' ≤ B.rm.cells) (hs : sl' ≤ B.rm.slots)
    (r : ∀ a h' σ', a = h.size → Keep h h' [] → a < h'.size → (∀ x, σ x → σ' x) → σ' a → Ary Z h' a (.object C) (List.replicate n .null) → Ova Z h' a C → Go l Z a0 EL n0 kn B D Q h' σ' ce' sl' (pc + 3) Ls (.ref a :: st)) : Go l Z a0 EL n0 kn B D Q h σ ce sl pc Ls (.int z :: st) := by
  subst hce hsl
  exact made hc (P := fun h' => Ary Z h' h.size (.object C) (List.replicate n .null) ∧ Ova Z h' h.size C)
    (fun T vm0 locs X h1 h4 h5 ok => by
      obtain ⟨q1, q2⟩ := ix_of hz
      obtain ⟨T', h', cA, X', e', E, A, O, s'⟩ := newR X ok.1 (s := D.s.setVm vm0) h4 h5 w1 w2 h1 (g := mkF D.m pc Ls (.int z :: st)) rfl (Jvm.hb ok.2.1 hd) rfl q1 (cap := cap) (by rw [q2]; exact hcap) hb hc hs
      refine ⟨T', h', X', e', E, A.lt, ⟨⟨_, A, ?_, ?_, ?_⟩, ⟨_, A.1, O⟩⟩, s'⟩
      · show (Array.replicate z.toNatClampNeg (defaultValue (.object C))).toList = _
        rw [q2, Array.toList_replicate]; rfl
      · rw [List.length_replicate]; omega
      · intro v hv
        rw [(List.mem_replicate.mp hv).2]; rfl)
    (fun h' σ' K hlt m1 m2 P => r h.size h' σ' rfl K hlt m1 m2 P.1 P.2)
theorem newarrayE (pc : Nat) {aty : ArrayType} (ty : FieldType) (n cap : Nat) {z : Int32} (ad : String) (had : "[" ++ (newarray.typeOf aty).toString = ad) (hd : decode B.bs pc = .ok (.newarray aty, 2)) (hty : newarray.typeOf aty = ty) (w : (Jvm.Cond.arrayClass ty).before a0 Z = true) (hz : z.toInt = (n : Int)) (hcap : n ≤ cap) (hb : cap * 8 ≤ 536870912) {ce' sl' : Nat} (hce : ce + 1 = ce') (hsl : sl + cap = sl') (hc : ce' ≤ B.rm.cells) (hs : sl' ≤ B.rm.slots)
    (r : ∀ a h' σ', a = h.size → Keep h h' [] → a < h'.size → (∀ x, σ x → σ' x) → σ' a → Ary Z h' a ty (List.replicate n (defaultValue ty)) → Exa Z h' a ad → Go l Z a0 EL n0 kn B D Q h' σ' ce' sl' (pc + 2) Ls (.ref a :: st)) : Go l Z a0 EL n0 kn B D Q h σ ce sl pc Ls (.int z :: st) := by
  subst hce hsl
  exact made hc (P := fun h' => Ary Z h' h.size ty (List.replicate n (defaultValue ty)) ∧ Exa Z h' h.size ad)
    (fun T vm0 locs X h1 h4 h5 ok => by
      subst hty
      obtain ⟨q1, q2⟩ := ix_of hz
      obtain ⟨T', h', cA, X', e', E, A, EE, s'⟩ := newPE X ok.1 (s := D.s.setVm vm0) h4 w h1 (g := mkF D.m pc Ls (.int z :: st)) rfl (Jvm.hb ok.2.1 hd) rfl q1 (cap := cap) (by rw [q2]; exact hcap) hb hc hs had
      refine ⟨T', h', X', e', E, A.lt, ⟨⟨_, A, ?_, ?_, ?_⟩, EE⟩, s'⟩
      · show (Array.replicate z.toNatClampNeg (defaultValue (newarray.typeOf aty))).toList = _
        rw [q2, Array.toList_replicate]
      · rw [List.length_replicate]; omega
      · intro v hv
        rw [(List.mem_replicate.mp hv).2]
        cases aty <;> rfl)
    (fun h' σ' K hlt m1 m2 P => r h.size h' σ' rfl K hlt m1 m2 P.1 P.2)
theorem aastore (pc : Nat) {C : String} {vs : List Value} {j : Int32} {y : Addr} (i : Nat) (hd : decode B.bs pc = .ok (.aastore, 1)) (A : Ary Z h a (.object C) vs) (O : Ova Z h a C) (I : Ins Z h y C true) (hj : j.toInt = (i : Int)) (hi : i < vs.length) (hσ : σ a)
    (r : ∀ h', Keep h h' [a] → Ary Z h' a (.object C) (vs.set i (.ref y)) → Go l Z a0 EL n0 kn B D Q h' σ ce sl (pc + 1) Ls st) : Go l Z a0 EL n0 kn B D Q h σ ce sl pc Ls (.ref y :: .int j :: .ref a :: st) :=
  wrote hσ (i := i) (v := .ref y) (fun T vm0 locs X h1 h4 h5 ok => by
    obtain ⟨c, Ar, e, -⟩ := A
    obtain ⟨c', e', Ov⟩ := O
    cases Ar.1.symm.trans e'
    have := stR X ok.1 (s := D.s.setVm vm0) h4 h1 Ar (Ary.inb e hj hi) rfl (Sto.of Ar Ov I) (g := mkF D.m pc Ls (.ref y :: .int j :: .ref a :: st)) rfl rfl (Jvm.hb ok.2.1 hd)
    rw [(ix_of hj).2] at this; exact this)
    (fun h' W K => r h' K (A.wr W rfl))
theorem callF (pc : Nat) {ix cnt : Nat} {xi : MethodName} {argsL rest : List Value} (C : String) (W : Nat) (hd : decode B.bs pc = .ok (.invokeinterface ix cnt, 5)) (w1 : (Jvm.Cond.methodLink B.y.cls ix xi).before a0 Z = true) (w2 : (Jvm.Cond.declares xi).before a0 Z = true) (w7 : (Jvm.Cond.interfaceMethod xi.cls xi.cls xi.name xi.desc).before a0 Z = true)
    (w5 : (Jvm.Cond.selects C xi B'.y).before a0 Z = true) (w6 : (Jvm.Cond.instanceMethod B'.y).before a0 Z = true) (w8 : (Jvm.Cond.publicMethod B'.y).before a0 Z = true) (w9 : (Jvm.Cond.unhidden C xi.name xi.desc).before a0 Z = true) (w10 : (Jvm.Cond.castable C xi.cls).before a0 Z = true) (w3 : (Jvm.Cond.initialized B'.y.cls).before a0 Z = true) (w4 : (Jvm.Cond.code B'.y B'.bs B'.ml B'.rt).before a0 Z = true) (hy : notMH xi) (hk : ((Jvm.Cond.interfaceMethod xi.cls xi.cls xi.name xi.desc).onTables && (Jvm.Cond.interfaceMethod xi.cls xi.cls xi.name xi.desc).keepsFace) = true)
    (E : Exa Z h a C) (hM : Con l Z EL n0 kn B' [] σ (.ref a :: argsL).toArray h Q') (hlen : ∀ sig, parseMethodDescriptor xi.desc = some sig → argsL.length = sig.parameters.length) (hst : st = argsL.reverse ++ .ref a :: rest) (hW : (rest.map fun v => v.category).sum = W) (hsz : Ls.size = B.ml)
    (hf : B'.rm.frames + 1 ≤ B.rm.frames) (hl : W + (B'.ml + 11) + B'.rm.locals ≤ B.rm.locals) {ce' sl' : Nat} (hce : ce + B'.rm.cells = ce') (hsl : sl + B'.rm.slots = sl') (hc : ce' ≤ B.rm.cells) (hs : sl' ≤ B.rm.slots)
    (r : ∀ v h' σ', (∀ x, σ x → σ' x) → Q' v h' σ' → Go l Z a0 EL n0 kn B D Q h' σ' ce' sl' (pc + 5) Ls (push v rest)) : Go l Z a0 EL n0 kn B D Q h σ ce sl pc Ls st := by
  subst hce hsl
  exact called W hM w4 w3 hf hl hc hs (fun T vm0 locs X h1 h4 h5 ok {Pre Pst} hB hpre => by
    obtain ⟨cq, kq, qa, qb, qc⟩ := isOf (s := D.s.setVm vm0) h4 h1 E
    exact X.interfaceBackS ok.1 (s := D.s.setVm vm0) (C := C) h5 (mv (s := D.s.setVm vm0) h4 w1) (mv (s := D.s.setVm vm0) h4 w2) (mv (s := D.s.setVm vm0) h4 w7 hk) (mv (s := D.s.setVm vm0) h4 w5) (mv (s := D.s.setVm vm0) h4 w6) (mv (s := D.s.setVm vm0) h4 w8) (mv (s := D.s.setVm vm0) h4 w9) (mv (s := D.s.setVm vm0) h4 w10) hy hB qa qb qc (g := mkF D.m pc Ls st) rfl (hsz.trans ok.2.2.1.symm) (Steps.refl _) (argsL := argsL) (rest := rest) hlen hst (by show 2 * 0 + _ ≤ _; rw [hW]; omega) (Jvm.hb ok.2.1 hd) hpre) r
end Refs
end Jvm.Road
namespace Jvm.Road
open Jvm Jvm.ClassFile Sem Op Lib Jvm.Free Jvm.Stand Jvm.LawKit Jvm.RoadKit Bundle
theorem u32_of {c : Int32} (h : 0 ≤ c.toInt) : (u32 c : Int) = c.toInt := by
  have e : c.toInt = c.toBitVec.toInt := rfl
  have := BitVec.toInt_eq_toNat_cond c.toBitVec
  unfold u32; rw [e] at h ⊢; split at this <;> omega
theorem toInt8_and (x : Int32) : Int32.toInt8 (x &&& 255) = Int32.toInt8 x := by
  apply Int8.toBitVec_inj.mp
  apply BitVec.eq_of_toNat_eq
  show ((x &&& 255).toBitVec.signExtend 8).toNat = (x.toBitVec.signExtend 8).toNat
  have e : ∀ y : BitVec 32, (y.signExtend 8).toNat = y.toNat % 256 := fun y => by rw [BitVec.signExtend_eq_setWidth_of_le _ (by omega), BitVec.toNat_setWidth]
  rw [e, e]
  have := u32_and255 x
  unfold u32 at this
  rw [this]; omega
theorem u32_bf (x : Int32) : u32 (bf x &&& 255) = u32 x % 256 := by
  have h1 : bf x = bf (x &&& 255) := by unfold bf; rw [toInt8_and]
  have h2 : 0 ≤ (x &&& 255).toInt ∧ (x &&& 255).toInt < 256 := by
    have := u32_and255 x
    have h3 : u32 (x &&& 255) < 2147483648 := by omega
    rw [toInt_u32 h3]; omega
  rw [h1, ← u32_and255 x]
  obtain ⟨i, e⟩ := lat_nat h2
  rw [e]
  exact congrArg u32 ((by decide +kernel : ∀ i : Fin 256, bf (Int32.ofInt (i.1 : Int)) &&& 255 = Int32.ofInt (i.1 : Int)) i)
theorem u32_shr8 {c : Int32} (h : 0 ≤ c.toInt) : u32 (c >>> ((8 : Int32) &&& 31)) = u32 c / 256 := by
  have hc : u32 c < 2147483648 := by have := u32_of h; have := Int32.toInt_lt c; omega
  show ((c >>> (8 : Int32)).toBitVec).toNat = _
  have e : (c >>> (8 : Int32)).toBitVec = c.toBitVec.sshiftRight 8 := by
    rw [Int32.toBitVec_shiftRight]; rfl
  rw [e, BitVec.sshiftRight_eq_of_msb_false (by rw [BitVec.msb_eq_false_iff_two_mul_lt]; unfold u32 at hc; omega), BitVec.toNat_ushiftRight, Nat.shiftRight_eq_div_pow]; rfl
theorem u32_shl8 (x : Int32) : u32 (x <<< ((8 : Int32) &&& 31)) = u32 x * 256 % 4294967296 := by
  show ((x <<< (8 : Int32)).toBitVec).toNat = _
  have e : (x <<< (8 : Int32)).toBitVec = x.toBitVec <<< 8 := by
    rw [Int32.toBitVec_shiftLeft]; rfl
  rw [e, BitVec.toNat_shiftLeft, Nat.shiftLeft_eq]; rfl
theorem u32_or (x y : Int32) : u32 (x ||| y) = u32 x ||| u32 y := BitVec.toNat_or ..
/-- two bytes and back -/
theorem u16_back {c : Int32} (h : 0 ≤ c.toInt ∧ c.toInt < 65536) : nar .char (chr (((bf (c >>> ((0 : Int32) &&& 31)) &&& 255) <<< ((0 : Int32) &&& 31)) ||| ((bf (c >>> ((8 : Int32) &&& 31)) &&& 255) <<< ((8 : Int32) &&& 31)))) = c := by
  have hc := u32_of h.1
  have hlt : u32 c < 65536 := by omega
  rw [nar_chr]
  apply u32_inj
  rw [u32_chr, u32_or, shr0, shl0, u32_shl8, u32_bf, u32_bf, u32_shr8 h.1]
  have e1 : u32 c / 256 % 256 = u32 c / 256 := by omega
  rw [e1, Nat.mod_eq_of_lt (show u32 c / 256 * 256 < 4294967296 by omega)]
  have e2 : u32 c % 256 ||| u32 c / 256 * 256 = u32 c := by
    rw [Nat.or_comm, Nat.mul_comm, show (256 : Nat) = 2 ^ 8 from rfl, ← Nat.two_pow_add_eq_or_of_lt (show u32 c % 2 ^ 8 < 2 ^ 8 by omega)]
    omega
  rw [e2]; omega
theorem u32_nat (k : Nat) : u32 (Nat.toInt32 k) = k % 4294967296 := by unfold u32; show (BitVec.ofNat 32 k).toNat = _; rw [BitVec.toNat_ofNat]
theorem u32_shl1 (x : Int32) : u32 (x <<< ((1 : Int32) &&& 31)) = u32 x * 2 % 4294967296 := by
  show ((x <<< (1 : Int32)).toBitVec).toNat = _
  have e : (x <<< (1 : Int32)).toBitVec = x.toBitVec <<< 1 := by
    rw [Int32.toBitVec_shiftLeft]; rfl
  rw [e, BitVec.toNat_shiftLeft, Nat.shiftLeft_eq]; rfl
theorem shl1 (k : Nat) : (Nat.toInt32 k) <<< ((1 : Int32) &&& 31) = Nat.toInt32 (2 * k) := u32_inj (by rw [u32_shl1, u32_nat, u32_nat]; omega)
theorem u32_shr1 {c : Int32} (h : 0 ≤ c.toInt) : u32 (c >>> ((1 : Int32) &&& 31)) = u32 c / 2 := by
  have hc : u32 c < 2147483648 := by have := u32_of h; have := Int32.toInt_lt c; omega
  show ((c >>> (1 : Int32)).toBitVec).toNat = _
  have e : (c >>> (1 : Int32)).toBitVec = c.toBitVec.sshiftRight 1 := by
    rw [Int32.toBitVec_shiftRight]; rfl
  rw [e, BitVec.sshiftRight_eq_of_msb_false (by rw [BitVec.msb_eq_false_iff_two_mul_lt]; unfold u32 at hc; omega), BitVec.toNat_ushiftRight, Nat.shiftRight_eq_div_pow]; rfl
theorem shr1 {k : Nat} (h : 2 * k < 2147483648) : (Nat.toInt32 (2 * k)) >>> ((1 : Int32) &&& 31) = Nat.toInt32 k := u32_inj (by rw [u32_shr1 (by rw [n32 h]; omega), u32_nat, u32_nat]; omega)
def lo8 (c : Int32) : Int32 := Int8.toInt32 (Int32.toInt8 (c >>> ((0 : Int32) &&& 31)))
def hi8 (c : Int32) : Int32 := Int8.toInt32 (Int32.toInt8 (c >>> ((8 : Int32) &&& 31)))
/-- a char's two bytes, the low one first -/
def utf : List Int32 → List Value
  | [] => []
  | c :: r => .int (lo8 c) :: .int (hi8 c) :: utf r
theorem utf_len : ∀ cs : List Int32, (utf cs).length = 2 * cs.length
  | [] => rfl
  | c :: r => by simp only [utf, List.length_cons, utf_len r]; omega
theorem utf_app : ∀ cs ds : List Int32, utf (cs ++ ds) = utf cs ++ utf ds
  | [], ds => rfl
  | c :: r, ds => by simp only [List.cons_append, utf, utf_app r ds]
theorem utf_at : ∀ (cs : List Int32) (k : Nat) (h : k < cs.length), (utf cs)[2 * k]? = some (.int (lo8 cs[k])) ∧ (utf cs)[2 * k + 1]? = some (.int (hi8 cs[k]))
  | c :: r, 0, _ => ⟨rfl, rfl⟩
  | c :: r, k + 1, h => by
    have := utf_at r k (by simpa using h)
    simpa [utf, Nat.mul_add, Nat.add_right_comm] using this
theorem utf_put (cs : List Int32) (r k : Nat) (h : k < cs.length) : ((utf (cs.take k) ++ List.replicate (2 * (r + 1)) (Value.int 0)).set (2 * k) (.int (lo8 cs[k]))).set (2 * k + 1) (.int (hi8 cs[k])) = utf (cs.take (k + 1)) ++ List.replicate (2 * r) (.int 0) := by
  have hl : (utf (cs.take k)).length = 2 * k := by rw [utf_len, List.length_take]; omega
  rw [List.take_succ_eq_append_getElem h, utf_app, show 2 * (r + 1) = 2 * r + 1 + 1 from by omega, List.replicate_succ, List.replicate_succ]
  rw [List.set_append_right _ _ (by omega), List.set_append_right _ _ (by omega), hl, Nat.sub_self, show 2 * k + 1 - 2 * k = 1 from by omega]
  simp [utf]
def Str16 (Z : State) (h : Heap) (a b : Addr) (cs : List Int32) : Prop := Exa Z h a SN ∧ Fld Z h a SN "coder" "B" (.int 1) ∧ Fld Z h a SN "value" "[B" (.ref b) ∧ Ary Z h b .byte (utf cs) ∧ (∀ c ∈ cs, 0 ≤ c.toInt ∧ c.toInt < 65536) ∧ 0 < cs.length
/-- a String of either kind -/
def StrX (Z : State) (h : Heap) (a b : Addr) (cs : List Int32) : Prop := Str Z h a b cs ∨ Str16 Z h a b cs
def hiS (c : Int32) : Prop := 55296 ≤ c.toInt ∧ c.toInt < 56320
def loS (c : Int32) : Prop := 56320 ≤ c.toInt ∧ c.toInt < 57344
instance (c : Int32) : Decidable (hiS c) := inferInstanceAs (Decidable (_ ∧ _))
instance (c : Int32) : Decidable (loS c) := inferInstanceAs (Decidable (_ ∧ _))
/-- a surrogate pair begins at i -/
def pr (cs : List Int32) (i : Nat) : Nat := if h : i + 1 < cs.length then (if hiS cs[i] ∧ loS cs[i + 1] then 1 else 0) else 0
def psum (cs : List Int32) : Nat → Nat
  | 0 => 0
  | m + 1 => psum cs m + pr cs m
theorem pr_le (cs : List Int32) (i : Nat) : pr cs i ≤ 1 := by unfold pr; split <;> (try split) <;> omega
theorem psum_le (cs : List Int32) : ∀ m, psum cs m ≤ m
  | 0 => Nat.le_refl _
  | m + 1 => by have := psum_le cs m; have := pr_le cs m; simp only [psum]; omega
theorem pr_end {cs : List Int32} {i : Nat} (h : cs.length ≤ i + 1) : pr cs i = 0 := by unfold pr; rw [dif_neg (by omega)]
theorem psum_end {cs : List Int32} : ∀ {m k : Nat}, cs.length ≤ m + 1 → m ≤ k → psum cs k = psum cs m := by
  intro m k h hk
  induction k with
  | zero => have : m = 0 := by omega
            subst this; rfl
  | succ k ih =>
    by_cases e : m = k + 1
    · rw [e]
    · simp only [psum]; rw [ih (by omega), pr_end (by omega), Nat.add_zero]
theorem psum_lat {cs : List Int32} (h : ∀ c ∈ cs, 0 ≤ c.toInt ∧ c.toInt < 256) : ∀ m, psum cs m = 0
  | 0 => rfl
  | m + 1 => by
    simp only [psum, psum_lat h m]; unfold pr; split
    · rw [if_neg]; intro q; have := h _ (List.getElem_mem (show m < cs.length by omega)); unfold hiS at q; omega
    · rfl
theorem cfa16 {n : Nat} (h0 : 0 < n) (h : n < 1000) : nar .byte (Int8.toInt32 (Int32.toInt8 (XT.ushr (Nat.toInt32 n - Nat.toInt32 (2 * n)) 31))) = 1 := by
  have e : Nat.toInt32 n - Nat.toInt32 (2 * n) = -(Nat.toInt32 n) := by
    rw [show 2 * n = n + n from by omega, ← add32n]
    generalize Nat.toInt32 n = x
    rw [Int32.sub_eq_add_neg, Int32.neg_add, Int32.sub_eq_add_neg, ← Int32.add_assoc, Int32.add_right_neg, Int32.zero_add]
  rw [e]
  exact (by decide +kernel : ∀ i : Fin 1000, 0 < i.1 → nar .byte (Int8.toInt32 (Int32.toInt8 (XT.ushr (-(Nat.toInt32 i.1)) 31))) = 1) ⟨n, h⟩ h0
theorem pr_lo {cs : List Int32} {i : Nat} (h : i < cs.length) (hl : loS cs[i]) : pr cs i = 0 := by
  unfold pr; split
  · rw [if_neg]; intro q; have := q.1; unfold hiS at this; unfold loS at hl; omega
  · rfl
theorem and255L (y : Int64) : 0 ≤ (Int64.toInt32 (y &&& 255)).toInt ∧ (Int64.toInt32 (y &&& 255)).toInt < 256 := by
  have h : u32 (Int64.toInt32 (y &&& 255)) < 256 := by
    show ((y &&& 255).toBitVec.signExtend 32).toNat < 256
    rw [BitVec.signExtend_eq_setWidth_of_le _ (by omega), BitVec.toNat_setWidth]
    have : ((y &&& 255).toBitVec).toNat ≤ 255 := by
      show (y.toBitVec &&& (255 : Int64).toBitVec).toNat ≤ 255
      rw [BitVec.toNat_and]; exact Nat.and_le_right
    omega
  rw [toInt_u32 (by omega)]; omega
theorem chr_add {a x : Int32} {A : Nat} (ha : a.toInt = (A : Int)) (hA : A + 255 < 65536) (hx : 0 ≤ x.toInt ∧ x.toInt < 256) : (chr (a + x)).toInt = A + x.toInt ∧ nar .char (chr (a + x)) = chr (a + x) := by
  have e1 := u32_of (c := a) (by omega)
  have e2 := u32_of hx.1
  have e3 : u32 (a + x) = u32 a + u32 x := by
    show (a.toBitVec + x.toBitVec).toNat = _
    rw [BitVec.toNat_add]; unfold u32 at *; omega
  have e4 : u32 (chr (a + x)) = u32 a + u32 x := by rw [u32_chr, e3]; omega
  refine ⟨?_, nar_chr _⟩
  rw [toInt_u32 (by omega), e4]; omega
/-- the law's kind of a place -/
def kd (kinds : Int32) (i : Nat) : Int32 := XT.ushr kinds ((2 : Int32) * Nat.toInt32 i) &&& 3
theorem u32_and15 (x : Int32) : x &&& 15 = Nat.toInt32 (u32 x % 16) := u32_inj (by rw [u32_nat, u32_and]; have : u32 x &&& u32 (15 : Int32) = u32 x % 16 := and_mask _ 4; rw [this]; omega)
/-- what the law's chars are, by their kinds -/
def KF (kinds : Int32) (cs : List Int32) : Prop := ∀ j (hj : j < cs.length), (0 ≤ cs[j].toInt ∧ cs[j].toInt < 65536) ∧ (hiS cs[j] ↔ kd kinds j = 2) ∧ (loS cs[j] ↔ kd kinds j = 3)
theorem KF.snoc {kinds : Int32} {cs : List Int32} {c : Int32} {i : Nat} (h : KF kinds cs) (hi : cs.length = i) (hc : (0 ≤ c.toInt ∧ c.toInt < 65536) ∧ (hiS c ↔ kd kinds i = 2) ∧ (loS c ↔ kd kinds i = 3)) : KF kinds (cs ++ [c]) := by
  intro j hj
  rw [List.length_append, List.length_singleton] at hj
  by_cases q : j < cs.length
  · rw [List.getElem_append_left q]; exact h j q
  · have : j = cs.length := by omega
    subst this
    rw [List.getElem_append_right (Nat.le_refl _)]; simp only [Nat.sub_self, List.getElem_cons_zero]; rw [hi]; exact hc
theorem KF.c16 {kinds : Int32} {cs : List Int32} (h : KF kinds cs) : ∀ c ∈ cs, 0 ≤ c.toInt ∧ c.toInt < 65536 := fun c hc => by
  obtain ⟨j, hj, rfl⟩ := List.getElem_of_mem hc; exact (h j hj).1
theorem KF.pr {kinds : Int32} {cs : List Int32} (h : KF kinds cs) (i : Nat) : pr cs i = if i + 1 < cs.length ∧ kd kinds i = 2 ∧ kd kinds (i + 1) = 3 then 1 else 0 := by
  unfold Road.pr
  by_cases q : i + 1 < cs.length
  · rw [dif_pos q]
    have a := (h i (by omega)).2.1
    have b := (h (i + 1) q).2.2
    by_cases u : hiS cs[i] ∧ loS cs[i + 1]
    · rw [if_pos u, if_pos ⟨q, a.mp u.1, b.mp u.2⟩]
    · rw [if_neg u, if_neg (fun v => u ⟨a.mpr v.2.1, b.mpr v.2.2⟩)]
  · rw [dif_neg q, if_neg (fun v => q v.1)]
theorem buf_put (pre : List Int32) (c : Int32) (r : Nat) : (pre.map Value.int ++ List.replicate (r + 1) (Value.int 0)).set pre.length (Value.int c) = (pre ++ [c]).map Value.int ++ List.replicate r (Value.int 0) := by
  have e1 : (pre.map Value.int).length = pre.length := List.length_map _
  rw [List.set_append_right _ _ (by omega), e1, Nat.sub_self, List.replicate_succ]; simp
theorem nar16 {c : Int32} (h : 0 ≤ c.toInt ∧ c.toInt < 65536) : nar .char c = c := by
  have e := u32_of h.1
  have : chr c = c := chr_id (by omega)
  rw [← this, nar_chr]
end Jvm.Road
namespace Jvm.Road
open Jvm Jvm.ClassFile Sem Op Lib Jvm.Free Jvm.Stand Jvm.LawKit Jvm.RoadKit Bundle
section LitX
variable {l : Launch} {Z : State} {a0 : Array Value} {EL : List (String × Nat)} {n0 : Nat} {kn : Bool} {B : Bdy} {D : Dyn} {Q : Post} {h : Heap} {σ : Addr → Prop} {ce sl : Nat} {Ls : Array Slot} {st : List Value} {a : Addr}
theorem iaload (pc : Nat) {vs : List Value} {j : Int32} (i : Nat) {v : Value} (hd : decode B.bs pc = .ok (.iaload, 1)) (A : Ary Z h a .int vs) (hj : j.toInt = (i : Int)) (hv : vs[i]? = some v) (r : Go l Z a0 EL n0 kn B D Q h σ ce sl (pc + 1) Ls (v :: st)) : Go l Z a0 EL n0 kn B D Q h σ ce sl pc Ls (.int j :: .ref a :: st) :=
  plainX (fun T vm0 locs X h1 h4 h5 ok t q => by
    obtain ⟨c, A, e, -⟩ := A
    have hi : i < vs.length := (List.getElem?_eq_some_iff.mp hv).1
    exact X.iaload ok.1 (by rw [h1]; exact A.1) (State.isArrayOf_alike (T := D.s.setVm vm0) h4.alike A.2.1) A.2.2 (Ary.inb e hj hi) (by rw [(ix_of hj).2, ← Array.getElem?_toList, e]; exact hv) (g := mkF D.m pc Ls (.int j :: .ref a :: st)) rfl rfl (Jvm.hb ok.2.1 hd) t q) r
/-- what lies in the heap of the start lies there still -/
theorem Ary.old {vs : List Value} {ty : FieldType} (A : Ary Z Z.heap a ty vs) (O : Old Z n0 h) : Ary Z h a ty vs := by
  obtain ⟨c, A, r⟩ := A; exact ⟨c, ⟨O.2.2 _ _ A.1, A.2⟩, r⟩
end LitX
theorem rem_nn (x : Int32) (m : Int32) (k : Nat) (hm : m.toInt = k) (hk : 0 < k) : ∃ j : Nat, j < k ∧ (x &&& 2147483647) % m = Nat.toInt32 j := by
  have h1 : (x &&& 2147483647).toInt = ((x.toBitVec &&& 2147483647#32).toInt) := rfl
  have h2 : (x.toBitVec &&& 2147483647#32).toNat ≤ 2147483647 := by rw [BitVec.toNat_and]; exact Nat.and_le_right
  have h3 : (x &&& 2147483647).toInt = ((x.toBitVec &&& 2147483647#32).toNat : Int) := by rw [h1, BitVec.toInt_eq_toNat_of_lt (by omega)]
  have h4 : ((x &&& 2147483647) % m).toInt = (x &&& 2147483647).toInt % k := by
    rw [Int32.toInt_mod, hm, Int.tmod_eq_emod_of_nonneg (by omega)]
  have hb := Int.emod_lt_of_pos (x &&& 2147483647).toInt (show (0 : Int) < (k : Int) by omega)
  have hn := Int.emod_nonneg (x &&& 2147483647).toInt (show (k : Int) ≠ 0 by omega)
  refine ⟨((x &&& 2147483647).toInt % k).toNat, by omega, Int32.toInt_inj.mp ?_⟩
  have hsm : ((x &&& 2147483647).toInt % k).toNat < 2147483648 := by
    have := Int32.toInt_lt m; omega
  rw [h4, n32 hsm]; omega
theorem idiv_nat {m k : Nat} (hm : m < 2147483648) (hk : k < 2147483648) : Nat.toInt32 m / Nat.toInt32 k = Nat.toInt32 (m / k) := by
  have hle : m / k ≤ m := Nat.div_le_self m k
  apply Int32.toInt_inj.mp
  rw [Int32.toInt_div, n32 hm, n32 hk, n32 (by omega), Int.tdiv_eq_ediv_of_nonneg (by omega), ← Int.natCast_ediv]
  generalize m / k = c at *
  rw [Int.bmod_eq_of_le] <;> omega
theorem irem_nat {m k : Nat} (hm : m < 2147483648) (hk : k < 2147483648) : Nat.toInt32 m % Nat.toInt32 k = Nat.toInt32 (m % k) := by
  have hle : m % k ≤ m := Nat.mod_le m k
  apply Int32.toInt_inj.mp
  rw [Int32.toInt_mod, n32 hm, n32 hk, n32 (by omega), Int.tmod_eq_emod_of_nonneg (by omega), ← Int.natCast_emod]
theorem dec_nat {m : Nat} (hm : m < 2147483648) : dec (Nat.toInt32 m) = decN m := by
  unfold dec
  rw [n32 hm, if_neg (by omega)]; congr 1
theorem chr_nat {k : Nat} (h : k < 65536) : chr (Nat.toInt32 k) = Nat.toInt32 k := chr_id (by rw [u32_nat]; omega)
end Jvm.Road
namespace Jvm.Pilot.@@N@@
open Jvm Jvm.ClassFile Sem Op Lib Jvm.Free Jvm.Stand Jvm.LawKit Jvm.RoadKit Bundle Jvm.Pilot.@@N@@.Jvm.D
set_option maxRecDepth 65536
theorem wI {a0 : Array Value} {Z : State} (hw : ∀ d ∈ tables_1, d.before a0 Z = true) (i : Nat) {d : Jvm.Cond} (h : tables_1[i]? = some d) : d.before a0 Z = true := hw d (List.mem_of_getElem? h)
def bCmp5 : Road.Bdy := (⟨"java/lang/StringUTF16", "compress", "([CI[BII)I"⟩, jdk_52_method_21_code, 7, (some .int), { frames := 0, cells := 0, slots := 0, locals := 0 })
theorem bCmp5_d0 : decode bCmp5.bs 0 = .ok (.iconst 0, 1) := by decide +kernel
theorem bCmp5_d1 : decode bCmp5.bs 1 = .ok (.istore 5, 2) := by decide +kernel
theorem bCmp5_d3 : decode bCmp5.bs 3 = .ok (.iload 5, 2) := by decide +kernel
theorem bCmp5_d5 : decode bCmp5.bs 5 = .ok (.iload 4, 2) := by decide +kernel
theorem bCmp5_d7 : decode bCmp5.bs 7 = .ok (.if_icmp .ge 37, 3) := by decide +kernel
theorem bCmp5_d10 : decode bCmp5.bs 10 = .ok (.aload_n 0, 1) := by decide +kernel
theorem bCmp5_d11 : decode bCmp5.bs 11 = .ok (.iload_n 1, 1) := by decide +kernel
theorem bCmp5_d12 : decode bCmp5.bs 12 = .ok (.caload, 1) := by decide +kernel
theorem bCmp5_d13 : decode bCmp5.bs 13 = .ok (.istore 6, 2) := by decide +kernel
theorem bCmp5_d15 : decode bCmp5.bs 15 = .ok (.iload 6, 2) := by decide +kernel
theorem bCmp5_d17 : decode bCmp5.bs 17 = .ok (.sipush 255, 3) := by decide +kernel
theorem bCmp5_d20 : decode bCmp5.bs 20 = .ok (.if_icmp .le 6, 3) := by decide +kernel
theorem bCmp5_d23 : decode bCmp5.bs 23 = .ok (.iload 5, 2) := by decide +kernel
theorem bCmp5_d25 : decode bCmp5.bs 25 = .ok (.ireturn, 1) := by decide +kernel
theorem bCmp5_d26 : decode bCmp5.bs 26 = .ok (.aload_n 2, 1) := by decide +kernel
theorem bCmp5_d27 : decode bCmp5.bs 27 = .ok (.iload_n 3, 1) := by decide +kernel
theorem bCmp5_d28 : decode bCmp5.bs 28 = .ok (.iload 6, 2) := by decide +kernel
theorem bCmp5_d30 : decode bCmp5.bs 30 = .ok (.i2b, 1) := by decide +kernel
theorem bCmp5_d31 : decode bCmp5.bs 31 = .ok (.bastore, 1) := by decide +kernel
theorem bCmp5_d32 : decode bCmp5.bs 32 = .ok (.iinc 1 1, 3) := by decide +kernel
theorem bCmp5_d35 : decode bCmp5.bs 35 = .ok (.iinc 3 1, 3) := by decide +kernel
theorem bCmp5_d38 : decode bCmp5.bs 38 = .ok (.iinc 5 1, 3) := by decide +kernel
theorem bCmp5_d41 : decode bCmp5.bs 41 = .ok (.goto (-38), 3) := by decide +kernel
theorem bCmp5_d44 : decode bCmp5.bs 44 = .ok (.iload 4, 2) := by decide +kernel
theorem bCmp5_d46 : decode bCmp5.bs 46 = .ok (.ireturn, 1) := by decide +kernel
theorem bCmp5_pd : parseMethodDescriptor "([CI[BII)I" = some ⟨[(.array .char), .int, (.array .byte), .int, .int], (some .int)⟩ := by decide +kernel
theorem bCmp5_pn : plainFor bCmp5.y = true := plainFor_of_name (show plainName "java/lang/StringUTF16" = true from by first | (simp [plainName, overriddenIn]; done) | decide +kernel)
theorem cCmp5 (l : Launch) (Z : State) (a0 : Array Value) (hw : ∀ d ∈ tables_1, d.before a0 Z = true) (n0 : Nat) (hEW : EW Z a0 consts_1) (b d : Addr) (cs : List Int32) (h0 : Heap) (σ : Addr → Prop) (A : Road.Ary Z h0 b .char (cs.map .int)) (Dd : Road.Ary Z h0 d .byte (List.replicate cs.length (.int 0))) (hlat : ∀ c ∈ cs, 0 ≤ c.toInt ∧ c.toInt < 256) (hbd : b ≠ d) (sd : σ d) :
    Road.Con l Z consts_1 n0 false bCmp5 [] σ #[(.ref b), (.int (0 : Int32)), (.ref d), (.int (0 : Int32)), (.int (Nat.toInt32 cs.length))] h0 (fun v h2 _ => v = some (.int (Nat.toInt32 cs.length)) ∧ Keep h0 h2 [d] ∧ Road.Ary Z h2 d .byte (cs.map Road.byt)) := by
  refine Road.Con.of bCmp5_pn hEW #[.val (.ref b), .val (.int (0 : Int32)), .val (.ref d), .val (.int (0 : Int32)), .val (.int (Nat.toInt32 cs.length)), .unset, .unset] (fun m => Road.ent (Road.laid1 rfl (Road.laid1 rfl (Road.laid1 rfl (Road.laid1 rfl (Road.laid1 rfl Road.laid0))))) (k := 2) rfl rfl) ?_
  intro D hD
  have hn : cs.length < 2147483648 := by have := A.small; rwa [List.length_map] at this
  refine Road.iconst 0 (0 : Int32) bCmp5_d0 rfl ?_
  refine Road.istore 1 #[.val (.ref b), .val (.int (0 : Int32)), .val (.ref d), .val (.int (0 : Int32)), .val (.int (Nat.toInt32 cs.length)), .val (.int (0 : Int32)), .unset] bCmp5_d1 rfl ?_
  have loop : ∀ r k, k + r = cs.length → ∀ (h : Heap) (w : Slot), Road.W1 w → Keep h0 h [d] → Road.Ary Z h d .byte ((cs.take k).map Road.byt ++ List.replicate r (.int 0)) → Road.Go l Z a0 consts_1 n0 false bCmp5 D (fun v h2 _ => v = some (.int (Nat.toInt32 cs.length)) ∧ Keep h0 h2 [d] ∧ Road.Ary Z h2 d .byte (cs.map Road.byt)) h σ 0 0 3 #[.val (.ref b), .val (.int (Nat.toInt32 k)), .val (.ref d), .val (.int (Nat.toInt32 k)), .val (.int (Nat.toInt32 cs.length)), .val (.int (Nat.toInt32 k)), w] [] := by
    intro r
    induction r with
    | zero =>
      intro k hk h w hw1 K1 A1
      have hk' : k = cs.length := by omega
      subst hk'
      refine Road.iload 3 bCmp5_d3 rfl ?_
      refine Road.iload 5 bCmp5_d5 rfl ?_
      refine Road.icmp_ge 7 44 bCmp5_d7 rfl (fun hc7 => ?_) (fun q => absurd q Int32.lt_irrefl)
      refine Road.iload 44 bCmp5_d44 rfl ?_
      exact Road.iretI 46 bCmp5_d46 rfl (by decide) (by decide) (fun σ' m => ⟨rfl, K1, by simpa using A1⟩)
    | succ r ih =>
      intro k hk h w hw1 K1 A1
      have hk' : k < cs.length := by omega
      have hc := hlat _ (List.getElem_mem hk')
      have A2 := A.keep K1 (ninS hbd nin0)
      refine Road.iload 3 bCmp5_d3 rfl ?_
      refine Road.iload 5 bCmp5_d5 rfl ?_
      refine Road.icmp_ge 7 44 bCmp5_d7 rfl (fun q => absurd q (by rw [Decidable.not_not, Road.lt32 (by omega) hn]; omega)) (fun hc7 => ?_)
      refine Road.aloadN 10 bCmp5_d10 rfl ?_
      refine Road.iloadN 11 bCmp5_d11 rfl ?_
      refine Road.caload 12 k bCmp5_d12 A2 (Road.n32 (by omega)) (by rw [List.getElem?_map, List.getElem?_eq_getElem hk']; rfl) ?_
      refine Road.istore 13 #[.val (.ref b), .val (.int (Nat.toInt32 k)), .val (.ref d), .val (.int (Nat.toInt32 k)), .val (.int (Nat.toInt32 cs.length)), .val (.int (Nat.toInt32 k)), .val (.int cs[k])] bCmp5_d13 (by rcases hw1 with rfl | ⟨x, rfl⟩ <;> rfl) ?_
      refine Road.iload 15 bCmp5_d15 rfl ?_
      refine Road.sipush 17 (255 : Int32) bCmp5_d17 rfl ?_
      refine Road.icmp_le 20 26 bCmp5_d20 rfl (fun hc20 => ?_) (fun q => absurd q (by rw [Int32.lt_iff_toInt_lt]; have : (255 : Int32).toInt = 255 := rfl; omega))
      refine Road.aloadN 26 bCmp5_d26 rfl ?_
      refine Road.iloadN 27 bCmp5_d27 rfl ?_
      refine Road.iload 28 bCmp5_d28 rfl ?_
      refine Road.i2b 30 bCmp5_d30 ?_
      refine Road.bastore 31 k (Int8.toInt32 (Int32.toInt8 cs[k])) bCmp5_d31 A1 (Road.n32 (by omega)) (by simp; omega) (Road.nar_byte _) sd ?_
      intro h_1 K_2 A_3
      replace A1 := A_3
      refine Road.iinc 32 (1) #[.val (.ref b), .val (.int ((Nat.toInt32 k) + 1)), .val (.ref d), .val (.int (Nat.toInt32 k)), .val (.int (Nat.toInt32 cs.length)), .val (.int (Nat.toInt32 k)), .val (.int cs[k])] bCmp5_d32 rfl rfl rfl ?_
      refine Road.iinc 35 (1) #[.val (.ref b), .val (.int ((Nat.toInt32 k) + 1)), .val (.ref d), .val (.int ((Nat.toInt32 k) + 1)), .val (.int (Nat.toInt32 cs.length)), .val (.int (Nat.toInt32 k)), .val (.int cs[k])] bCmp5_d35 rfl rfl rfl ?_
      refine Road.iinc 38 (1) #[.val (.ref b), .val (.int ((Nat.toInt32 k) + 1)), .val (.ref d), .val (.int ((Nat.toInt32 k) + 1)), .val (.int (Nat.toInt32 cs.length)), .val (.int ((Nat.toInt32 k) + 1)), .val (.int cs[k])] bCmp5_d38 rfl rfl rfl ?_
      refine Road.goto 41 3 bCmp5_d41 rfl ?_
      rw [show (Value.int (Int8.toInt32 (Int32.toInt8 cs[k]))) = Road.byt cs[k] from rfl, Road.set_mid] at A1
      have := ih (k + 1) (by omega) h_1 (.val (.int cs[k])) (Or.inr ⟨_, rfl⟩) (K1.trans K_2 (by simp)) A1
      rw [← Road.succ32] at this
      exact this
  exact loop cs.length 0 (by omega) h0 .unset (Or.inl rfl) (Keep.refl _ _) (by simpa using Dd)
def bCfa : Road.Bdy := (⟨"java/lang/StringUTF16", "coderFromArrayLen", "([BI)B"⟩, jdk_52_method_15_code, 2, (some .byte), { frames := 0, cells := 0, slots := 0, locals := 0 })
theorem bCfa_d0 : decode bCfa.bs 0 = .ok (.iload_n 1, 1) := by decide +kernel
theorem bCfa_d1 : decode bCfa.bs 1 = .ok (.aload_n 0, 1) := by decide +kernel
theorem bCfa_d2 : decode bCfa.bs 2 = .ok (.arraylength, 1) := by decide +kernel
theorem bCfa_d3 : decode bCfa.bs 3 = .ok (.isub, 1) := by decide +kernel
theorem bCfa_d4 : decode bCfa.bs 4 = .ok (.bipush 31, 2) := by decide +kernel
theorem bCfa_d6 : decode bCfa.bs 6 = .ok (.iushr, 1) := by decide +kernel
theorem bCfa_d7 : decode bCfa.bs 7 = .ok (.i2b, 1) := by decide +kernel
theorem bCfa_d8 : decode bCfa.bs 8 = .ok (.ireturn, 1) := by decide +kernel
theorem bCfa_pd : parseMethodDescriptor "([BI)B" = some ⟨[(.array .byte), .int], (some .byte)⟩ := by decide +kernel
theorem bCfa_pn : plainFor bCfa.y = true := plainFor_of_name (show plainName "java/lang/StringUTF16" = true from by first | (simp [plainName, overriddenIn]; done) | decide +kernel)
theorem cCfa (l : Launch) (Z : State) (a0 : Array Value) (hw : ∀ d ∈ tables_1, d.before a0 Z = true) (n0 : Nat) (hEW : EW Z a0 consts_1) (d : Addr) (vs : List Value) (h0 : Heap) (σ : Addr → Prop) (A : Road.Ary Z h0 d .byte vs) :
    Road.Con l Z consts_1 n0 false bCfa [] σ #[(.ref d), (.int (Nat.toInt32 vs.length))] h0 (fun v h2 _ => v = some (.int 0) ∧ h0 = h2) := by
  refine Road.Con.of bCfa_pn hEW #[.val (.ref d), .val (.int (Nat.toInt32 vs.length))] (fun m => Road.ent (Road.laid1 rfl (Road.laid1 rfl Road.laid0)) (k := 0) rfl rfl) ?_
  intro D hD
  refine Road.iloadN 0 bCfa_d0 rfl ?_
  refine Road.aloadN 1 bCfa_d1 rfl ?_
  refine Road.alen 2 (Nat.toInt32 vs.length) bCfa_d2 A (n := vs.length) rfl rfl ?_
  refine Road.isub 3 bCfa_d3 ?_
  refine Road.bipush 4 (31 : Int32) bCfa_d4 rfl ?_
  refine Road.iushr 6 bCfa_d6 ?_
  refine Road.i2b 7 bCfa_d7 ?_
  exact Road.iret 8 0 bCfa_d8 (t := .byte) rfl (by simp) (by rw [Int32.sub_self]; rfl) (by decide) (by decide) (fun σ' m => ⟨rfl, rfl⟩)
def bCmp4 : Road.Bdy := (⟨"java/lang/StringUTF16", "compress", "([CII)[B"⟩, jdk_52_method_16_code, 6, (some (.array .byte)), { frames := 1, cells := 1, slots := 2, locals := 18 })
theorem bCmp4_d0 : decode bCmp4.bs 0 = .ok (.iload_n 2, 1) := by decide +kernel
theorem bCmp4_d1 : decode bCmp4.bs 1 = .ok (.newarray .byte, 2) := by decide +kernel
theorem bCmp4_d3 : decode bCmp4.bs 3 = .ok (.astore_n 3, 1) := by decide +kernel
theorem bCmp4_d4 : decode bCmp4.bs 4 = .ok (.aload_n 0, 1) := by decide +kernel
theorem bCmp4_d5 : decode bCmp4.bs 5 = .ok (.iload_n 1, 1) := by decide +kernel
theorem bCmp4_d6 : decode bCmp4.bs 6 = .ok (.aload_n 3, 1) := by decide +kernel
theorem bCmp4_d7 : decode bCmp4.bs 7 = .ok (.iconst 0, 1) := by decide +kernel
theorem bCmp4_d8 : decode bCmp4.bs 8 = .ok (.iload_n 2, 1) := by decide +kernel
theorem bCmp4_d9 : decode bCmp4.bs 9 = .ok (.invokestatic 115, 3) := by decide +kernel
theorem bCmp4_d12 : decode bCmp4.bs 12 = .ok (.istore 4, 2) := by decide +kernel
theorem bCmp4_d14 : decode bCmp4.bs 14 = .ok (.iload 4, 2) := by decide +kernel
theorem bCmp4_d16 : decode bCmp4.bs 16 = .ok (.iload_n 2, 1) := by decide +kernel
theorem bCmp4_d17 : decode bCmp4.bs 17 = .ok (.if_icmp .eq 40, 3) := by decide +kernel
theorem bCmp4_d20 : decode bCmp4.bs 20 = .ok (.aload_n 0, 1) := by decide +kernel
theorem bCmp4_d21 : decode bCmp4.bs 21 = .ok (.iload_n 1, 1) := by decide +kernel
theorem bCmp4_d22 : decode bCmp4.bs 22 = .ok (.iload_n 2, 1) := by decide +kernel
theorem bCmp4_d23 : decode bCmp4.bs 23 = .ok (.invokestatic 119, 3) := by decide +kernel
theorem bCmp4_d26 : decode bCmp4.bs 26 = .ok (.astore 5, 2) := by decide +kernel
theorem bCmp4_d28 : decode bCmp4.bs 28 = .ok (.aload 5, 2) := by decide +kernel
theorem bCmp4_d30 : decode bCmp4.bs 30 = .ok (.iload 4, 2) := by decide +kernel
theorem bCmp4_d32 : decode bCmp4.bs 32 = .ok (.invokestatic 71, 3) := by decide +kernel
theorem bCmp4_d35 : decode bCmp4.bs 35 = .ok (.sipush 255, 3) := by decide +kernel
theorem bCmp4_d38 : decode bCmp4.bs 38 = .ok (.if_icmp .gt 16, 3) := by decide +kernel
theorem bCmp4_d41 : decode bCmp4.bs 41 = .ok (.aload 5, 2) := by decide +kernel
theorem bCmp4_d43 : decode bCmp4.bs 43 = .ok (.iconst 0, 1) := by decide +kernel
theorem bCmp4_d44 : decode bCmp4.bs 44 = .ok (.aload_n 3, 1) := by decide +kernel
theorem bCmp4_d45 : decode bCmp4.bs 45 = .ok (.iconst 0, 1) := by decide +kernel
theorem bCmp4_d46 : decode bCmp4.bs 46 = .ok (.iload_n 2, 1) := by decide +kernel
theorem bCmp4_d47 : decode bCmp4.bs 47 = .ok (.invokestatic 123, 3) := by decide +kernel
theorem bCmp4_d50 : decode bCmp4.bs 50 = .ok (.iload_n 2, 1) := by decide +kernel
theorem bCmp4_d51 : decode bCmp4.bs 51 = .ok (.if_icmp .eq 6, 3) := by decide +kernel
theorem bCmp4_d54 : decode bCmp4.bs 54 = .ok (.aload 5, 2) := by decide +kernel
theorem bCmp4_d56 : decode bCmp4.bs 56 = .ok (.areturn, 1) := by decide +kernel
theorem bCmp4_d57 : decode bCmp4.bs 57 = .ok (.aload_n 3, 1) := by decide +kernel
theorem bCmp4_d58 : decode bCmp4.bs 58 = .ok (.areturn, 1) := by decide +kernel
theorem bCmp4_pd : parseMethodDescriptor "([CII)[B" = some ⟨[(.array .char), .int, .int], (some (.array .byte))⟩ := by decide +kernel
theorem bCmp4_pn : plainFor bCmp4.y = true := plainFor_of_name (show plainName "java/lang/StringUTF16" = true from by first | (simp [plainName, overriddenIn]; done) | decide +kernel)
theorem cCmp4 (l : Launch) (Z : State) (a0 : Array Value) (hw : ∀ d ∈ tables_1, d.before a0 Z = true) (n0 : Nat) (hEW : EW Z a0 consts_1) (b : Addr) (cs : List Int32) (h0 : Heap) (σ : Addr → Prop) (A : Road.Ary Z h0 b .char (cs.map .int)) (hcap : cs.length ≤ 2) (hlat : ∀ c ∈ cs, 0 ≤ c.toInt ∧ c.toInt < 256) :
    Road.Con l Z consts_1 n0 false bCmp4 [] σ #[(.ref b), (.int (0 : Int32)), (.int (Nat.toInt32 cs.length))] h0 (fun v h2 s2 => ∃ d, v = some (.ref d) ∧ h0.size ≤ d ∧ Keep h0 h2 [] ∧ s2 d ∧ Road.Ary Z h2 d .byte (cs.map Road.byt)) := by
  refine Road.Con.of bCmp4_pn hEW #[.val (.ref b), .val (.int (0 : Int32)), .val (.int (Nat.toInt32 cs.length)), .unset, .unset, .unset] (fun m => Road.ent (Road.laid1 rfl (Road.laid1 rfl (Road.laid1 rfl Road.laid0))) (k := 3) rfl rfl) ?_
  intro D hD
  refine Road.iloadN 0 bCmp4_d0 rfl ?_
  refine Road.newarray 1 .byte cs.length 2 bCmp4_d1 rfl (wI hw 21 rfl) (Road.n32 (by omega)) hcap (by decide) (ce' := 1) (sl' := 2) rfl rfl (by decide) (by decide) ?_
  intro d h_1 σ_2 g_3 K_4 lt_5 m_6 s_7 Ad
  have ne_b_d : b ≠ d := Nat.ne_of_lt (Nat.lt_of_lt_of_le A.lt (Nat.le_of_eq g_3.symm))
  replace A := A.keep K_4 nin0
  refine Road.astoreN 3 #[.val (.ref b), .val (.int (0 : Int32)), .val (.int (Nat.toInt32 cs.length)), .val (.ref d), .unset, .unset] bCmp4_d3 rfl ?_
  refine Road.aloadN 4 bCmp4_d4 rfl ?_
  refine Road.iloadN 5 bCmp4_d5 rfl ?_
  refine Road.aloadN 6 bCmp4_d6 rfl ?_
  refine Road.iconst 7 (0 : Int32) bCmp4_d7 rfl ?_
  refine Road.iloadN 8 bCmp4_d8 rfl ?_
  refine Road.callS (B' := bCmp5) 9 (argsL := [(.ref b), (.int (0 : Int32)), (.ref d), (.int (0 : Int32)), (.int (Nat.toInt32 cs.length))]) (rest := []) 0 bCmp4_d9 (wI hw 22 rfl) (wI hw 23 rfl) (wI hw 19 rfl) (wI hw 24 rfl) (by decide) (cCmp5 l Z a0 hw n0 hEW b d cs h_1 σ_2 A Ad hlat ne_b_d s_7) (lenOf bCmp5_pd rfl) rfl rfl rfl (by decide) (by decide) (ce' := 1) (sl' := 2) rfl rfl (by decide) (by decide) ?_
  rintro _ h_8 σ_9 m_10 ⟨rfl, K_11, Ad2⟩
  replace A := A.keep K_11 (ninS ne_b_d nin0)
  replace s_7 := m_10 _ s_7
  refine Road.istore 12 #[.val (.ref b), .val (.int (0 : Int32)), .val (.int (Nat.toInt32 cs.length)), .val (.ref d), .val (.int (Nat.toInt32 cs.length)), .unset] bCmp4_d12 rfl ?_
  refine Road.iload 14 bCmp4_d14 rfl ?_
  refine Road.iloadN 16 bCmp4_d16 rfl ?_
  refine Road.icmp_eq 17 57 bCmp4_d17 rfl (fun hc17 => ?_) (fun q => absurd q (by simp))
  refine Road.aloadN 57 bCmp4_d57 rfl ?_
  exact Road.aret 58 bCmp4_d58 (t := (.array .byte)) rfl rfl rfl (by decide) (by decide) (fun σ' m => ⟨d, rfl, Nat.le_of_eq g_3.symm, K_4.trans K_11 (by intro x hx; cases List.mem_singleton.mp hx; exact Or.inr (Nat.le_of_eq g_3.symm)), m _ s_7, Ad2⟩)
def bStr2 : Road.Bdy := (⟨"java/lang/String", "<init>", "([CIILjava/lang/Void;)V"⟩, jdk_42_method_149_code, 6, none, { frames := 2, cells := 1, slots := 2, locals := 39 })
theorem bStr2_d0 : decode bStr2.bs 0 = .ok (.aload_n 0, 1) := by decide +kernel
theorem bStr2_d1 : decode bStr2.bs 1 = .ok (.invokespecial 1, 3) := by decide +kernel
theorem bStr2_d4 : decode bStr2.bs 4 = .ok (.iload_n 3, 1) := by decide +kernel
theorem bStr2_d5 : decode bStr2.bs 5 = .ok (.ifCond .ne 22, 3) := by decide +kernel
theorem bStr2_d8 : decode bStr2.bs 8 = .ok (.aload_n 0, 1) := by decide +kernel
theorem bStr2_d9 : decode bStr2.bs 9 = .ok (.ldc 7, 2) := by decide +kernel
theorem bStr2_d11 : decode bStr2.bs 11 = .ok (.getfield 9, 3) := by decide +kernel
theorem bStr2_d14 : decode bStr2.bs 14 = .ok (.putfield 9, 3) := by decide +kernel
theorem bStr2_d17 : decode bStr2.bs 17 = .ok (.aload_n 0, 1) := by decide +kernel
theorem bStr2_d18 : decode bStr2.bs 18 = .ok (.ldc 7, 2) := by decide +kernel
theorem bStr2_d20 : decode bStr2.bs 20 = .ok (.getfield 15, 3) := by decide +kernel
theorem bStr2_d23 : decode bStr2.bs 23 = .ok (.putfield 15, 3) := by decide +kernel
theorem bStr2_d26 : decode bStr2.bs 26 = .ok (.return_, 1) := by decide +kernel
theorem bStr2_d27 : decode bStr2.bs 27 = .ok (.getstatic 38, 3) := by decide +kernel
theorem bStr2_d30 : decode bStr2.bs 30 = .ok (.ifCond .eq 28, 3) := by decide +kernel
theorem bStr2_d33 : decode bStr2.bs 33 = .ok (.aload_n 1, 1) := by decide +kernel
theorem bStr2_d34 : decode bStr2.bs 34 = .ok (.iload_n 2, 1) := by decide +kernel
theorem bStr2_d35 : decode bStr2.bs 35 = .ok (.iload_n 3, 1) := by decide +kernel
theorem bStr2_d36 : decode bStr2.bs 36 = .ok (.invokestatic 177, 3) := by decide +kernel
theorem bStr2_d39 : decode bStr2.bs 39 = .ok (.astore 5, 2) := by decide +kernel
theorem bStr2_d41 : decode bStr2.bs 41 = .ok (.aload_n 0, 1) := by decide +kernel
theorem bStr2_d42 : decode bStr2.bs 42 = .ok (.aload 5, 2) := by decide +kernel
theorem bStr2_d44 : decode bStr2.bs 44 = .ok (.iload_n 3, 1) := by decide +kernel
theorem bStr2_d45 : decode bStr2.bs 45 = .ok (.invokestatic 47, 3) := by decide +kernel
theorem bStr2_d48 : decode bStr2.bs 48 = .ok (.putfield 15, 3) := by decide +kernel
theorem bStr2_d51 : decode bStr2.bs 51 = .ok (.aload_n 0, 1) := by decide +kernel
theorem bStr2_d52 : decode bStr2.bs 52 = .ok (.aload 5, 2) := by decide +kernel
theorem bStr2_d54 : decode bStr2.bs 54 = .ok (.putfield 9, 3) := by decide +kernel
theorem bStr2_d57 : decode bStr2.bs 57 = .ok (.return_, 1) := by decide +kernel
theorem bStr2_d58 : decode bStr2.bs 58 = .ok (.aload_n 0, 1) := by decide +kernel
theorem bStr2_d59 : decode bStr2.bs 59 = .ok (.iconst 1, 1) := by decide +kernel
theorem bStr2_d60 : decode bStr2.bs 60 = .ok (.putfield 15, 3) := by decide +kernel
theorem bStr2_d63 : decode bStr2.bs 63 = .ok (.aload_n 0, 1) := by decide +kernel
theorem bStr2_d64 : decode bStr2.bs 64 = .ok (.aload_n 1, 1) := by decide +kernel
theorem bStr2_d65 : decode bStr2.bs 65 = .ok (.iload_n 2, 1) := by decide +kernel
theorem bStr2_d66 : decode bStr2.bs 66 = .ok (.iload_n 3, 1) := by decide +kernel
theorem bStr2_d67 : decode bStr2.bs 67 = .ok (.invokestatic 180, 3) := by decide +kernel
theorem bStr2_d70 : decode bStr2.bs 70 = .ok (.putfield 9, 3) := by decide +kernel
theorem bStr2_d73 : decode bStr2.bs 73 = .ok (.return_, 1) := by decide +kernel
theorem bStr2_pd : parseMethodDescriptor "([CIILjava/lang/Void;)V" = some ⟨[(.array .char), .int, .int, (.object "java/lang/Void")], none⟩ := by decide +kernel
theorem bStr2_pn : plainFor bStr2.y = true := plainFor_of_name (show plainName "java/lang/String" = true from by first | (simp [plainName, overriddenIn]; done) | decide +kernel)
theorem cStr2 (l : Launch) (Z : State) (a0 : Array Value) (hw : ∀ d ∈ tables_1, d.before a0 Z = true) (n0 : Nat) (hEW : EW Z a0 consts_1) (a b : Addr) (cs : List Int32) (h0 : Heap) (σ : Addr → Prop) (E : Exa Z h0 a Road.SN) (Fc : Fld Z h0 a Road.SN "coder" "B" (.int 0)) (Fv : Fld Z h0 a Road.SN "value" "[B" .null) (A : Road.Ary Z h0 b .char (cs.map .int)) (hcap : cs.length ≤ 2) (hlat : ∀ c ∈ cs, 0 ≤ c.toInt ∧ c.toInt < 256) (sa : σ a) (cp : Int32) (Hc : Sta Z Z.heap Road.SN "COMPACT_STRINGS" "Z" (.int cp)) (hcp : ¬ cp = 0) (hne0 : cs ≠ []) :
    Road.Con l Z consts_1 n0 false bStr2 [] σ #[(.ref a), (.ref b), (.int (0 : Int32)), (.int (Nat.toInt32 cs.length)), .null] h0 (fun v h2 s2 => v = none ∧ Keep h0 h2 [a] ∧ ∃ d, Road.Str Z h2 a d cs ∧ True) := by
  have nab : a ≠ b := by obtain ⟨c, Ar, -⟩ := A; exact ne_arr E (wI hw 4 rfl) Ar
  refine Road.Con.of bStr2_pn hEW #[.val (.ref a), .val (.ref b), .val (.int (0 : Int32)), .val (.int (Nat.toInt32 cs.length)), .val .null, .unset] (fun m => Road.ent (Road.laid1 rfl (Road.laid1 rfl (Road.laid1 rfl (Road.laid1 rfl (Road.laid1 rfl Road.laid0))))) (k := 1) rfl rfl) ?_
  intro D hD
  refine Road.Go.ownAll ?_
  intro hall
  refine Road.aloadN 0 bStr2_d0 rfl ?_
  refine Road.initObj 1 bStr2_d1 (wI hw 13 rfl) (wI hw 14 rfl) (wI hw 15 rfl) 0 rfl rfl (by decide) (by decide) ?_
  refine Road.iloadN 4 bStr2_d4 rfl ?_
  refine Road.if_ne 5 27 bStr2_d5 rfl (fun hc5 => ?_) (fun hc5 => ?_)
  · skip
    refine Road.getstatic 27 bStr2_d27 (wI hw 16 rfl) Via.refl Hc ?_
    refine Road.if_eq 30 58 bStr2_d30 rfl (fun q => absurd q hcp) (fun hc30 => ?_)
    refine Road.aloadN 33 bStr2_d33 rfl ?_
    refine Road.iloadN 34 bStr2_d34 rfl ?_
    refine Road.iloadN 35 bStr2_d35 rfl ?_
    refine Road.callS (B' := bCmp4) 36 (argsL := [(.ref b), (.int (0 : Int32)), (.int (Nat.toInt32 cs.length))]) (rest := []) 0 bStr2_d36 (wI hw 17 rfl) (wI hw 18 rfl) (wI hw 19 rfl) (wI hw 20 rfl) (by decide) (cCmp4 l Z a0 hw n0 hEW b cs h0 σ A hcap hlat) (lenOf bCmp4_pd rfl) rfl rfl rfl (by decide) (by decide) (ce' := 1) (sl' := 2) rfl rfl (by decide) (by decide) ?_
    rintro _ h_1 σ_2 m_3 ⟨d, rfl, gd, K_4, sd, Ad⟩
    have ne_a_d : a ≠ d := Nat.ne_of_lt (Nat.lt_of_lt_of_le E.lt gd)
    have ne_b_d : b ≠ d := Nat.ne_of_lt (Nat.lt_of_lt_of_le A.lt gd)
    replace E := E.keep K_4
    replace Fc := Fc.keep K_4 nin0
    replace Fv := Fv.keep K_4 nin0
    replace A := A.keep K_4 nin0
    replace sa := m_3 _ sa
    refine Road.astore 39 #[.val (.ref a), .val (.ref b), .val (.int (0 : Int32)), .val (.int (Nat.toInt32 cs.length)), .val .null, .val (.ref d)] bStr2_d39 rfl ?_
    refine Road.aloadN 41 bStr2_d41 rfl ?_
    refine Road.aload 42 bStr2_d42 rfl ?_
    refine Road.iloadN 44 bStr2_d44 rfl ?_
    have hlm : (cs.map Road.byt).length = cs.length := List.length_map _
    refine Road.callS (B' := bCfa) 45 (argsL := [(.ref d), (.int (Nat.toInt32 cs.length))]) (rest := [(.ref a)]) 1 bStr2_d45 (wI hw 25 rfl) (wI hw 26 rfl) (wI hw 19 rfl) (wI hw 27 rfl) (by decide) (by rw [← List.length_map (f := Road.byt) (as := cs)]; exact cCfa l Z a0 hw n0 hEW d (cs.map Road.byt) h_1 σ_2 Ad) (lenOf bCfa_pd rfl) rfl rfl rfl (by decide) (by decide) (ce' := 1) (sl' := 2) rfl rfl (by decide) (by decide) ?_
    rintro _ h_6 σ_7 m_8 ⟨rfl, rfl⟩
    refine Road.Go.weaken (σ' := σ_2) m_8 (Nat.le_refl _) (Nat.le_refl _) ?_
    refine Road.putfield 48 bStr2_d48 (wI hw 28 rfl) Via.refl Fc E (Or.inr ⟨(wI hw 29 rfl), rfl, rfl⟩) (wI hw 4 rfl) (ty := .byte) (by decide) rfl rfl sa ?_
    intro h_12 W_10 K_11
    replace Fc := Fc.same W_10
    replace Fv := Fv.other W_10 (Or.inr (slot_ne (Or.inr (wI hw 31 rfl)) (Or.inr (wI hw 29 rfl)) (by decide) (t := (.array .byte)) (by decide) (t' := .byte) (by decide)))
    replace E := E.keep K_11
    replace A := A.keep K_11 (ninS (Ne.symm nab) nin0)
    replace Ad := Ad.keep K_11 (ninS (Ne.symm ne_a_d) nin0)
    refine Road.aloadN 51 bStr2_d51 rfl ?_
    refine Road.aload 52 bStr2_d52 rfl ?_
    refine Road.putfield 54 bStr2_d54 (wI hw 30 rfl) Via.refl Fv E (Or.inr ⟨(wI hw 31 rfl), rfl, rfl⟩) (wI hw 4 rfl) (ty := (.array .byte)) (by decide) rfl rfl sa ?_
    intro h_15 W_13 K_14
    replace Fv := Fv.same W_13
    replace Fc := Fc.other W_13 (Or.inr (slot_ne (Or.inr (wI hw 29 rfl)) (Or.inr (wI hw 31 rfl)) (by decide) (t := .byte) (by decide) (t' := (.array .byte)) (by decide)))
    replace E := E.keep K_14
    replace A := A.keep K_14 (ninS (Ne.symm nab) nin0)
    replace Ad := Ad.keep K_14 (ninS (Ne.symm ne_a_d) nin0)
    exact Road.ret 57 bStr2_d57 rfl (by decide) (by decide) (fun σ' m => ⟨rfl, ((Road.keep_more K_4).trans K_11 (by simp)).trans K_14 (by simp), d, ⟨E, Fc, Fv, Ad, hlat⟩, trivial⟩)
  · skip
    exact absurd (List.eq_nil_of_length_eq_zero (by have := (Road.eq32 (i := cs.length) (j := 0) (by omega) (by omega)).mp hc5; exact this)) hne0
def bStr1 : Road.Bdy := (⟨"java/lang/String", "<init>", "([C)V"⟩, jdk_42_method_3_code, 2, none, { frames := 3, cells := 1, slots := 2, locals := 56 })
theorem bStr1_d0 : decode bStr1.bs 0 = .ok (.aload_n 0, 1) := by decide +kernel
theorem bStr1_d1 : decode bStr1.bs 1 = .ok (.aload_n 1, 1) := by decide +kernel
theorem bStr1_d2 : decode bStr1.bs 2 = .ok (.iconst 0, 1) := by decide +kernel
theorem bStr1_d3 : decode bStr1.bs 3 = .ok (.aload_n 1, 1) := by decide +kernel
theorem bStr1_d4 : decode bStr1.bs 4 = .ok (.arraylength, 1) := by decide +kernel
theorem bStr1_d5 : decode bStr1.bs 5 = .ok (.aconst_null, 1) := by decide +kernel
theorem bStr1_d6 : decode bStr1.bs 6 = .ok (.invokespecial 27, 3) := by decide +kernel
theorem bStr1_d9 : decode bStr1.bs 9 = .ok (.return_, 1) := by decide +kernel
theorem bStr1_pd : parseMethodDescriptor "([C)V" = some ⟨[(.array .char)], none⟩ := by decide +kernel
theorem bStr1_pn : plainFor bStr1.y = true := plainFor_of_name (show plainName "java/lang/String" = true from by first | (simp [plainName, overriddenIn]; done) | decide +kernel)
theorem cStr1 (l : Launch) (Z : State) (a0 : Array Value) (hw : ∀ d ∈ tables_1, d.before a0 Z = true) (n0 : Nat) (hEW : EW Z a0 consts_1) (a b : Addr) (cs : List Int32) (h0 : Heap) (σ : Addr → Prop) (E : Exa Z h0 a Road.SN) (Fc : Fld Z h0 a Road.SN "coder" "B" (.int 0)) (Fv : Fld Z h0 a Road.SN "value" "[B" .null) (A : Road.Ary Z h0 b .char (cs.map .int)) (hcap : cs.length ≤ 2) (hlat : ∀ c ∈ cs, 0 ≤ c.toInt ∧ c.toInt < 256) (sa : σ a) (cp : Int32) (Hc : Sta Z Z.heap Road.SN "COMPACT_STRINGS" "Z" (.int cp)) (hcp : ¬ cp = 0) (hne0 : cs ≠ []) :
    Road.Con l Z consts_1 n0 false bStr1 [] σ #[(.ref a), (.ref b)] h0 (fun v h2 s2 => v = none ∧ Keep h0 h2 [a] ∧ ∃ d, Road.Str Z h2 a d cs ∧ True) := by
  refine Road.Con.of bStr1_pn hEW #[.val (.ref a), .val (.ref b)] (fun m => Road.ent (Road.laid1 rfl (Road.laid1 rfl Road.laid0)) (k := 0) rfl rfl) ?_
  intro D hD
  refine Road.aloadN 0 bStr1_d0 rfl ?_
  refine Road.aloadN 1 bStr1_d1 rfl ?_
  refine Road.iconst 2 (0 : Int32) bStr1_d2 rfl ?_
  refine Road.aloadN 3 bStr1_d3 rfl ?_
  refine Road.alen 4 (Nat.toInt32 cs.length) bStr1_d4 A (n := cs.length) (List.length_map _) rfl ?_
  refine Road.aconstNull 5 bStr1_d5 ?_
  refine Road.callI (B' := bStr2) (a := a) 6 (argsL := [(.ref b), (.int (0 : Int32)), (.int (Nat.toInt32 cs.length)), .null]) (rest := []) 0 bStr1_d6 (wI hw 9 rfl) (wI hw 10 rfl) (wI hw 5 rfl) (wI hw 12 rfl) rfl rfl (by decide) (cStr2 l Z a0 hw n0 hEW a b cs h0 σ E Fc Fv A hcap hlat sa cp Hc hcp hne0) (lenOf bStr2_pd rfl) rfl rfl rfl (by decide) (by decide) (ce' := 1) (sl' := 2) rfl rfl (by decide) (by decide) ?_
  rintro _ h_1 σ_2 m_3 ⟨rfl, K_4, d, S, hd⟩
  exact Road.ret 9 bStr1_d9 rfl (by decide) (by decide) (fun σ' m => ⟨rfl, K_4, d, S, hd⟩)
def bCan : Road.Bdy := (⟨"java/lang/StringLatin1", "canEncode", "(C)Z"⟩, jdk_43_method_3_code, 1, (some .boolean), { frames := 0, cells := 0, slots := 0, locals := 0 })
theorem bCan_d0 : decode bCan.bs 0 = .ok (.iload_n 0, 1) := by decide +kernel
theorem bCan_d1 : decode bCan.bs 1 = .ok (.sipush 255, 3) := by decide +kernel
theorem bCan_d4 : decode bCan.bs 4 = .ok (.if_icmp .gt 7, 3) := by decide +kernel
theorem bCan_d7 : decode bCan.bs 7 = .ok (.iconst 1, 1) := by decide +kernel
theorem bCan_d8 : decode bCan.bs 8 = .ok (.goto 4, 3) := by decide +kernel
theorem bCan_d11 : decode bCan.bs 11 = .ok (.iconst 0, 1) := by decide +kernel
theorem bCan_d12 : decode bCan.bs 12 = .ok (.ireturn, 1) := by decide +kernel
theorem bCan_pd : parseMethodDescriptor "(C)Z" = some ⟨[.char], (some .boolean)⟩ := by decide +kernel
theorem bCan_pn : plainFor bCan.y = true := plainFor_of_name (show plainName "java/lang/StringLatin1" = true from by first | (simp [plainName, overriddenIn]; done) | decide +kernel)
theorem cCan (l : Launch) (Z : State) (a0 : Array Value) (hw : ∀ d ∈ tables_1, d.before a0 Z = true) (n0 : Nat) (hEW : EW Z a0 consts_1) (c : Int32) (h0 : Heap) (σ : Addr → Prop) (hc : 0 ≤ c.toInt ∧ c.toInt < 256) :
    Road.Con l Z consts_1 n0 false bCan [] σ #[(.int c)] h0 (fun v h2 _ => v = some (.int 1) ∧ h0 = h2) := by
  refine Road.Con.of bCan_pn hEW #[.val (.int c)] (fun m => Road.ent (Road.laid1 rfl Road.laid0) (k := 0) rfl rfl) ?_
  intro D hD
  refine Road.iloadN 0 bCan_d0 rfl ?_
  refine Road.sipush 1 (255 : Int32) bCan_d1 rfl ?_
  refine Road.icmp_gt 4 11 bCan_d4 rfl (fun q => absurd q (by rw [Int32.lt_iff_toInt_lt]; have : (255 : Int32).toInt = 255 := rfl; omega)) (fun hc4 => ?_)
  refine Road.iconst 7 (1 : Int32) bCan_d7 rfl ?_
  refine Road.goto 8 12 bCan_d8 rfl ?_
  exact Road.iret 12 1 bCan_d12 (t := .boolean) rfl (by simp) rfl (by decide) (by decide) (fun σ' m => ⟨rfl, rfl⟩)
def bToB : Road.Bdy := (⟨"java/lang/StringLatin1", "toBytes", "(C)[B"⟩, jdk_43_method_46_code, 1, (some (.array .byte)), { frames := 0, cells := 1, slots := 1, locals := 0 })
theorem bToB_d0 : decode bToB.bs 0 = .ok (.iconst 1, 1) := by decide +kernel
theorem bToB_d1 : decode bToB.bs 1 = .ok (.newarray .byte, 2) := by decide +kernel
theorem bToB_d3 : decode bToB.bs 3 = .ok (.dup, 1) := by decide +kernel
theorem bToB_d4 : decode bToB.bs 4 = .ok (.iconst 0, 1) := by decide +kernel
theorem bToB_d5 : decode bToB.bs 5 = .ok (.iload_n 0, 1) := by decide +kernel
theorem bToB_d6 : decode bToB.bs 6 = .ok (.i2b, 1) := by decide +kernel
theorem bToB_d7 : decode bToB.bs 7 = .ok (.bastore, 1) := by decide +kernel
theorem bToB_d8 : decode bToB.bs 8 = .ok (.areturn, 1) := by decide +kernel
theorem bToB_pd : parseMethodDescriptor "(C)[B" = some ⟨[.char], (some (.array .byte))⟩ := by decide +kernel
theorem bToB_pn : plainFor bToB.y = true := plainFor_of_name (show plainName "java/lang/StringLatin1" = true from by first | (simp [plainName, overriddenIn]; done) | decide +kernel)
theorem cToB (l : Launch) (Z : State) (a0 : Array Value) (hw : ∀ d ∈ tables_1, d.before a0 Z = true) (n0 : Nat) (hEW : EW Z a0 consts_1) (c : Int32) (h0 : Heap) (σ : Addr → Prop)  :
    Road.Con l Z consts_1 n0 false bToB [] σ #[(.int c)] h0 (fun v h2 s2 => ∃ d, v = some (.ref d) ∧ h0.size ≤ d ∧ Keep h0 h2 [] ∧ s2 d ∧ Road.Ary Z h2 d .byte ([c].map Road.byt)) := by
  refine Road.Con.of bToB_pn hEW #[.val (.int c)] (fun m => Road.ent (Road.laid1 rfl Road.laid0) (k := 0) rfl rfl) ?_
  intro D hD
  refine Road.iconst 0 (1 : Int32) bToB_d0 rfl ?_
  refine Road.newarray 1 .byte 1 1 bToB_d1 rfl (wI hw 21 rfl) (by decide) (by decide) (by decide) (ce' := 1) (sl' := 1) rfl rfl (by decide) (by decide) ?_
  intro d h_1 σ_2 g_3 K_4 lt_5 m_6 s_7 Ad
  refine Road.dup 3 bToB_d3 ?_
  refine Road.iconst 4 (0 : Int32) bToB_d4 rfl ?_
  refine Road.iloadN 5 bToB_d5 rfl ?_
  refine Road.i2b 6 bToB_d6 ?_
  refine Road.bastore 7 0 (Int8.toInt32 (Int32.toInt8 c)) bToB_d7 Ad (by decide) (by simp) (Road.nar_byte _) s_7 ?_
  intro h_8 K_9 A_10
  replace Ad := A_10
  exact Road.aret 8 bToB_d8 (t := (.array .byte)) rfl rfl rfl (by decide) (by decide) (fun σ' m => ⟨d, rfl, Nat.le_of_eq g_3.symm, K_4.trans K_9 (by intro x hx; cases List.mem_singleton.mp hx; exact Or.inr (Nat.le_of_eq g_3.symm)), m _ s_7, Ad⟩)
def bStB : Road.Bdy := (⟨"java/lang/String", "<init>", "([BB)V"⟩, jdk_42_method_151_code, 3, none, { frames := 1, cells := 0, slots := 0, locals := 13 })
theorem bStB_d0 : decode bStB.bs 0 = .ok (.aload_n 0, 1) := by decide +kernel
theorem bStB_d1 : decode bStB.bs 1 = .ok (.invokespecial 1, 3) := by decide +kernel
theorem bStB_d4 : decode bStB.bs 4 = .ok (.aload_n 0, 1) := by decide +kernel
theorem bStB_d5 : decode bStB.bs 5 = .ok (.aload_n 1, 1) := by decide +kernel
theorem bStB_d6 : decode bStB.bs 6 = .ok (.putfield 9, 3) := by decide +kernel
theorem bStB_d9 : decode bStB.bs 9 = .ok (.aload_n 0, 1) := by decide +kernel
theorem bStB_d10 : decode bStB.bs 10 = .ok (.iload_n 2, 1) := by decide +kernel
theorem bStB_d11 : decode bStB.bs 11 = .ok (.putfield 15, 3) := by decide +kernel
theorem bStB_d14 : decode bStB.bs 14 = .ok (.return_, 1) := by decide +kernel
theorem bStB_pd : parseMethodDescriptor "([BB)V" = some ⟨[(.array .byte), .byte], none⟩ := by decide +kernel
theorem bStB_pn : plainFor bStB.y = true := plainFor_of_name (show plainName "java/lang/String" = true from by first | (simp [plainName, overriddenIn]; done) | decide +kernel)
theorem cStB (l : Launch) (Z : State) (a0 : Array Value) (hw : ∀ d ∈ tables_1, d.before a0 Z = true) (n0 : Nat) (hEW : EW Z a0 consts_1) (a d : Addr) (cs : List Int32) (h0 : Heap) (σ : Addr → Prop) (E : Exa Z h0 a Road.SN) (Fc : Fld Z h0 a Road.SN "coder" "B" (.int 0)) (Fv : Fld Z h0 a Road.SN "value" "[B" .null) (Ad : Road.Ary Z h0 d .byte (cs.map Road.byt)) (hlat : ∀ c ∈ cs, 0 ≤ c.toInt ∧ c.toInt < 256) (sa : σ a) :
    Road.Con l Z consts_1 n0 false bStB [] σ #[(.ref a), (.ref d), (.int (0 : Int32))] h0 (fun v h2 s2 => v = none ∧ Keep h0 h2 [a] ∧ Road.Str Z h2 a d cs) := by
  have nad : a ≠ d := by obtain ⟨c, Ar, -⟩ := Ad; exact ne_arr E (wI hw 4 rfl) Ar
  refine Road.Con.of bStB_pn hEW #[.val (.ref a), .val (.ref d), .val (.int (0 : Int32))] (fun m => Road.ent (Road.laid1 rfl (Road.laid1 rfl (Road.laid1 rfl Road.laid0))) (k := 0) rfl rfl) ?_
  intro D hD
  refine Road.aloadN 0 bStB_d0 rfl ?_
  refine Road.initObj 1 bStB_d1 (wI hw 13 rfl) (wI hw 14 rfl) (wI hw 15 rfl) 0 rfl rfl (by decide) (by decide) ?_
  refine Road.aloadN 4 bStB_d4 rfl ?_
  refine Road.aloadN 5 bStB_d5 rfl ?_
  refine Road.putfield 6 bStB_d6 (wI hw 30 rfl) Via.refl Fv E (Or.inr ⟨(wI hw 31 rfl), rfl, rfl⟩) (wI hw 4 rfl) (ty := (.array .byte)) (by decide) rfl rfl sa ?_
  intro h_3 W_1 K_2
  replace Fv := Fv.same W_1
  replace Fc := Fc.other W_1 (Or.inr (slot_ne (Or.inr (wI hw 29 rfl)) (Or.inr (wI hw 31 rfl)) (by decide) (t := .byte) (by decide) (t' := (.array .byte)) (by decide)))
  replace E := E.keep K_2
  replace Ad := Ad.keep K_2 (ninS (Ne.symm nad) nin0)
  refine Road.aloadN 9 bStB_d9 rfl ?_
  refine Road.iloadN 10 bStB_d10 rfl ?_
  refine Road.putfield 11 bStB_d11 (wI hw 28 rfl) Via.refl Fc E (Or.inr ⟨(wI hw 29 rfl), rfl, rfl⟩) (wI hw 4 rfl) (ty := .byte) (by decide) rfl rfl sa ?_
  intro h_6 W_4 K_5
  replace Fc := Fc.same W_4
  replace Fv := Fv.other W_4 (Or.inr (slot_ne (Or.inr (wI hw 31 rfl)) (Or.inr (wI hw 29 rfl)) (by decide) (t := (.array .byte)) (by decide) (t' := .byte) (by decide)))
  replace E := E.keep K_5
  replace Ad := Ad.keep K_5 (ninS (Ne.symm nad) nin0)
  exact Road.ret 14 bStB_d14 rfl (by decide) (by decide) (fun σ' m => ⟨rfl, K_2.trans K_5 (by simp), E, Fc, Fv, Ad, hlat⟩)
def bVal : Road.Bdy := (⟨"java/lang/String", "valueOf", "(C)Ljava/lang/String;"⟩, jdk_42_method_139_code, 1, (some (.object "java/lang/String")), { frames := 2, cells := 2, slots := 5, locals := 28 })
theorem bVal_d0 : decode bVal.bs 0 = .ok (.getstatic 38, 3) := by decide +kernel
theorem bVal_d3 : decode bVal.bs 3 = .ok (.ifCond .eq 23, 3) := by decide +kernel
theorem bVal_d6 : decode bVal.bs 6 = .ok (.iload_n 0, 1) := by decide +kernel
theorem bVal_d7 : decode bVal.bs 7 = .ok (.invokestatic 1015, 3) := by decide +kernel
theorem bVal_d10 : decode bVal.bs 10 = .ok (.ifCond .eq 16, 3) := by decide +kernel
theorem bVal_d13 : decode bVal.bs 13 = .ok (.new 10, 3) := by decide +kernel
theorem bVal_d16 : decode bVal.bs 16 = .ok (.dup, 1) := by decide +kernel
theorem bVal_d17 : decode bVal.bs 17 = .ok (.iload_n 0, 1) := by decide +kernel
theorem bVal_d18 : decode bVal.bs 18 = .ok (.invokestatic 1018, 3) := by decide +kernel
theorem bVal_d21 : decode bVal.bs 21 = .ok (.iconst 0, 1) := by decide +kernel
theorem bVal_d22 : decode bVal.bs 22 = .ok (.invokespecial 209, 3) := by decide +kernel
theorem bVal_d25 : decode bVal.bs 25 = .ok (.areturn, 1) := by decide +kernel
theorem bVal_d26 : decode bVal.bs 26 = .ok (.new 10, 3) := by decide +kernel
theorem bVal_d29 : decode bVal.bs 29 = .ok (.dup, 1) := by decide +kernel
theorem bVal_d30 : decode bVal.bs 30 = .ok (.iload_n 0, 1) := by decide +kernel
theorem bVal_d31 : decode bVal.bs 31 = .ok (.invokestatic 1021, 3) := by decide +kernel
theorem bVal_d34 : decode bVal.bs 34 = .ok (.iconst 1, 1) := by decide +kernel
theorem bVal_d35 : decode bVal.bs 35 = .ok (.invokespecial 209, 3) := by decide +kernel
theorem bVal_d38 : decode bVal.bs 38 = .ok (.areturn, 1) := by decide +kernel
theorem bVal_pd : parseMethodDescriptor "(C)Ljava/lang/String;" = some ⟨[.char], (some (.object "java/lang/String"))⟩ := by decide +kernel
theorem bVal_pn : plainFor bVal.y = true := plainFor_of_name (show plainName "java/lang/String" = true from by first | (simp [plainName, overriddenIn]; done) | decide +kernel)
theorem cVal (l : Launch) (Z : State) (a0 : Array Value) (hw : ∀ d ∈ tables_1, d.before a0 Z = true) (n0 : Nat) (hEW : EW Z a0 consts_1) (c : Int32) (h0 : Heap) (σ : Addr → Prop) (hc : 0 ≤ c.toInt ∧ c.toInt < 256) (cp : Int32) (Hc : Sta Z Z.heap Road.SN "COMPACT_STRINGS" "Z" (.int cp)) (hcp : ¬ cp = 0) :
    Road.Con l Z consts_1 n0 false bVal [] σ #[(.int c)] h0 (fun v h2 s2 => ∃ a d, v = some (.ref a) ∧ h0.size ≤ a ∧ h0.size ≤ d ∧ Keep h0 h2 [] ∧ Road.Str Z h2 a d [c]) := by
  refine Road.Con.of bVal_pn hEW #[.val (.int c)] (fun m => Road.ent (Road.laid1 rfl Road.laid0) (k := 0) rfl rfl) ?_
  intro D hD
  refine Road.getstatic 0 bVal_d0 (wI hw 16 rfl) Via.refl Hc ?_
  refine Road.if_eq 3 26 bVal_d3 rfl (fun q => absurd q hcp) (fun hc3 => ?_)
  refine Road.iloadN 6 bVal_d6 rfl ?_
  refine Road.callS (B' := bCan) 7 (argsL := [(.int c)]) (rest := []) 0 bVal_d7 (wI hw 312 rfl) (wI hw 313 rfl) (wI hw 71 rfl) (wI hw 314 rfl) (by decide) (cCan l Z a0 hw n0 hEW c h0 σ hc) (lenOf bCan_pd rfl) rfl rfl rfl (by decide) (by decide) (ce' := 0) (sl' := 0) rfl rfl (by decide) (by decide) ?_
  rintro _ h_1 σ_2 m_3 ⟨rfl, rfl⟩
  refine Road.Go.weaken (σ' := σ) m_3 (Nat.le_refl _) (Nat.le_refl _) ?_
  refine Road.if_eq 10 26 bVal_d10 rfl (fun q => absurd q (by decide)) (fun hc10 => ?_)
  refine Road.new 13 "java/lang/String" bVal_d13 (wI hw 315 rfl) (wI hw 4 rfl) (wI hw 5 rfl) (ce' := 1) (sl' := 4) rfl rfl (by decide) (by decide) ?_
  intro a h_5 σ_6 g_7 K_8 lt_9 m_10 s_11 E D_12 M_13
  have Fc := D_12 (Or.inr (wI hw 29 rfl)) (ty := .byte) (by decide)
  have Fv := D_12 (Or.inr (wI hw 31 rfl)) (ty := (.array .byte)) (by decide)
  refine Road.dup 16 bVal_d16 ?_
  refine Road.iloadN 17 bVal_d17 rfl ?_
  refine Road.callS (B' := bToB) 18 (argsL := [(.int c)]) (rest := [(.ref a), (.ref a)]) 2 bVal_d18 (wI hw 316 rfl) (wI hw 317 rfl) (wI hw 71 rfl) (wI hw 318 rfl) (by decide) (cToB l Z a0 hw n0 hEW c h_5 σ_6) (lenOf bToB_pd rfl) rfl rfl rfl (by decide) (by decide) (ce' := 2) (sl' := 5) rfl rfl (by decide) (by decide) ?_
  rintro _ h_14 σ_15 m_16 ⟨d, rfl, gd, K_17, sd, Ad⟩
  have ne_a_d : a ≠ d := Nat.ne_of_lt (Nat.lt_of_lt_of_le E.lt gd)
  replace E := E.keep K_17
  replace Fc := Fc.keep K_17 nin0
  replace Fv := Fv.keep K_17 nin0
  replace s_11 := m_16 _ s_11
  refine Road.iconst 21 (0 : Int32) bVal_d21 rfl ?_
  refine Road.callI (B' := bStB) (a := a) 22 (argsL := [(.ref d), (.int (0 : Int32))]) (rest := [(.ref a)]) 1 bVal_d22 (wI hw 319 rfl) (wI hw 320 rfl) (wI hw 5 rfl) (wI hw 321 rfl) rfl rfl (by decide) (cStB l Z a0 hw n0 hEW a d [c] h_14 σ_15 E Fc Fv Ad (by intro x hx; cases List.mem_singleton.mp hx; exact hc) s_11) (lenOf bStB_pd rfl) rfl rfl rfl (by decide) (by decide) (ce' := 2) (sl' := 5) rfl rfl (by decide) (by decide) ?_
  rintro _ h_19 σ_20 m_21 ⟨rfl, K_22, S⟩
  replace s_11 := m_21 _ s_11
  exact Road.aret 25 bVal_d25 (t := (.object "java/lang/String")) rfl rfl rfl (by decide) (by decide) (fun σ' m => ⟨a, d, rfl, Nat.le_of_eq g_7.symm, Nat.le_trans K_8.1 gd, (K_8.trans K_17 (by simp)).trans K_22 (by intro x hx; cases List.mem_singleton.mp hx; exact Or.inr (Nat.le_of_eq g_7.symm)), S⟩)
def bCod : Road.Bdy := (⟨"java/lang/String", "coder", "()B"⟩, jdk_42_method_152_code, 1, (some .byte), { frames := 0, cells := 0, slots := 0, locals := 0 })
theorem bCod_d0 : decode bCod.bs 0 = .ok (.getstatic 38, 3) := by decide +kernel
theorem bCod_d3 : decode bCod.bs 3 = .ok (.ifCond .eq 10, 3) := by decide +kernel
theorem bCod_d6 : decode bCod.bs 6 = .ok (.aload_n 0, 1) := by decide +kernel
theorem bCod_d7 : decode bCod.bs 7 = .ok (.getfield 15, 3) := by decide +kernel
theorem bCod_d10 : decode bCod.bs 10 = .ok (.goto 4, 3) := by decide +kernel
theorem bCod_d13 : decode bCod.bs 13 = .ok (.iconst 1, 1) := by decide +kernel
theorem bCod_d14 : decode bCod.bs 14 = .ok (.ireturn, 1) := by decide +kernel
theorem bCod_pd : parseMethodDescriptor "()B" = some ⟨[], (some .byte)⟩ := by decide +kernel
theorem bCod_pn : plainFor bCod.y = true := plainFor_of_name (show plainName "java/lang/String" = true from by first | (simp [plainName, overriddenIn]; done) | decide +kernel)
theorem cCod (l : Launch) (Z : State) (a0 : Array Value) (hw : ∀ d ∈ tables_1, d.before a0 Z = true) (n0 : Nat) (hEW : EW Z a0 consts_1) (a : Addr) (h0 : Heap) (σ : Addr → Prop) (Fc : Fld Z h0 a Road.SN "coder" "B" (.int 0)) (cp : Int32) (Hc : Sta Z Z.heap Road.SN "COMPACT_STRINGS" "Z" (.int cp)) (hcp : ¬ cp = 0) :
    Road.Con l Z consts_1 n0 false bCod [] σ #[(.ref a)] h0 (fun v h2 _ => v = some (.int 0) ∧ h0 = h2) := by
  refine Road.Con.of bCod_pn hEW #[.val (.ref a)] (fun m => Road.ent (Road.laid1 rfl Road.laid0) (k := 0) rfl rfl) ?_
  intro D hD
  refine Road.getstatic 0 bCod_d0 (wI hw 16 rfl) Via.refl Hc ?_
  refine Road.if_eq 3 13 bCod_d3 rfl (fun q => absurd q hcp) (fun hc3 => ?_)
  refine Road.aloadN 6 bCod_d6 rfl ?_
  refine Road.getfield 7 bCod_d7 (wI hw 28 rfl) Via.refl Fc ?_
  refine Road.goto 10 14 bCod_d10 rfl ?_
  exact Road.iret 14 0 bCod_d14 (t := .byte) rfl (by simp) rfl (by decide) (by decide) (fun σ' m => ⟨rfl, rfl⟩)
def bLen : Road.Bdy := (⟨"java/lang/String", "length", "()I"⟩, jdk_42_method_54_code, 1, (some .int), { frames := 1, cells := 0, slots := 0, locals := 13 })
theorem bLen_d0 : decode bLen.bs 0 = .ok (.aload_n 0, 1) := by decide +kernel
theorem bLen_d1 : decode bLen.bs 1 = .ok (.getfield 9, 3) := by decide +kernel
theorem bLen_d4 : decode bLen.bs 4 = .ok (.arraylength, 1) := by decide +kernel
theorem bLen_d5 : decode bLen.bs 5 = .ok (.aload_n 0, 1) := by decide +kernel
theorem bLen_d6 : decode bLen.bs 6 = .ok (.invokevirtual 335, 3) := by decide +kernel
theorem bLen_d9 : decode bLen.bs 9 = .ok (.ishr, 1) := by decide +kernel
theorem bLen_d10 : decode bLen.bs 10 = .ok (.ireturn, 1) := by decide +kernel
theorem bLen_pd : parseMethodDescriptor "()I" = some ⟨[], (some .int)⟩ := by decide +kernel
theorem bLen_pn : plainFor bLen.y = true := plainFor_of_name (show plainName "java/lang/String" = true from by first | (simp [plainName, overriddenIn]; done) | decide +kernel)
theorem cLen (l : Launch) (Z : State) (a0 : Array Value) (hw : ∀ d ∈ tables_1, d.before a0 Z = true) (n0 : Nat) (hEW : EW Z a0 consts_1) (a b : Addr) (cs : List Int32) (h0 : Heap) (σ : Addr → Prop) (S : Road.Str Z h0 a b cs) (cp : Int32) (Hc : Sta Z Z.heap Road.SN "COMPACT_STRINGS" "Z" (.int cp)) (hcp : ¬ cp = 0) :
    Road.Con l Z consts_1 n0 false bLen [] σ #[(.ref a)] h0 (fun v h2 _ => v = some (.int (Nat.toInt32 cs.length)) ∧ h0 = h2) := by
  refine Road.Con.of bLen_pn hEW #[.val (.ref a)] (fun m => Road.ent (Road.laid1 rfl Road.laid0) (k := 0) rfl rfl) ?_
  intro D hD
  refine Road.aloadN 0 bLen_d0 rfl ?_
  refine Road.getfield 1 bLen_d1 (wI hw 30 rfl) Via.refl S.2.2.1 ?_
  refine Road.alen 4 (Nat.toInt32 cs.length) bLen_d4 S.2.2.2.1 (n := cs.length) (List.length_map _) rfl ?_
  refine Road.aloadN 5 bLen_d5 rfl ?_
  refine Road.callV (B' := bCod) (a := a) 6 (argsL := []) (rest := [(.int (Nat.toInt32 cs.length))]) "java/lang/String" 1 bLen_d6 (wI hw 94 rfl) (wI hw 95 rfl) (fun vm hz => Road.notFace_sib (args := #[]) (mv (s := D.s.setVm vm) hz (wI hw 57 rfl)) rfl) (wI hw 97 rfl) (wI hw 96 rfl) (wI hw 5 rfl) (wI hw 98 rfl) (by decide) S.1 (cCod l Z a0 hw n0 hEW a h0 σ S.2.1 cp Hc hcp) (lenOf bCod_pd rfl) rfl rfl rfl (by decide) (by decide) (ce' := 0) (sl' := 0) rfl rfl (by decide) (by decide) ?_
  rintro _ h_1 σ_2 m_3 ⟨rfl, rfl⟩
  refine Road.Go.weaken (σ' := σ) m_3 (Nat.le_refl _) (Nat.le_refl _) ?_
  refine Road.ishr 9 bLen_d9 ?_
  exact Road.iretI 10 bLen_d10 rfl (by decide) (by decide) (fun σ' m => ⟨by rw [Road.shr0], rfl⟩)
def bIsL : Road.Bdy := (⟨"java/lang/String", "isLatin1", "()Z"⟩, jdk_42_method_154_code, 1, (some .boolean), { frames := 0, cells := 0, slots := 0, locals := 0 })
theorem bIsL_d0 : decode bIsL.bs 0 = .ok (.getstatic 38, 3) := by decide +kernel
theorem bIsL_d3 : decode bIsL.bs 3 = .ok (.ifCond .eq 14, 3) := by decide +kernel
theorem bIsL_d6 : decode bIsL.bs 6 = .ok (.aload_n 0, 1) := by decide +kernel
theorem bIsL_d7 : decode bIsL.bs 7 = .ok (.getfield 15, 3) := by decide +kernel
theorem bIsL_d10 : decode bIsL.bs 10 = .ok (.ifCond .ne 7, 3) := by decide +kernel
theorem bIsL_d13 : decode bIsL.bs 13 = .ok (.iconst 1, 1) := by decide +kernel
theorem bIsL_d14 : decode bIsL.bs 14 = .ok (.goto 4, 3) := by decide +kernel
theorem bIsL_d17 : decode bIsL.bs 17 = .ok (.iconst 0, 1) := by decide +kernel
theorem bIsL_d18 : decode bIsL.bs 18 = .ok (.ireturn, 1) := by decide +kernel
theorem bIsL_pd : parseMethodDescriptor "()Z" = some ⟨[], (some .boolean)⟩ := by decide +kernel
theorem bIsL_pn : plainFor bIsL.y = true := plainFor_of_name (show plainName "java/lang/String" = true from by first | (simp [plainName, overriddenIn]; done) | decide +kernel)
theorem cIsL (l : Launch) (Z : State) (a0 : Array Value) (hw : ∀ d ∈ tables_1, d.before a0 Z = true) (n0 : Nat) (hEW : EW Z a0 consts_1) (a : Addr) (h0 : Heap) (σ : Addr → Prop) (Fc : Fld Z h0 a Road.SN "coder" "B" (.int 0)) (cp : Int32) (Hc : Sta Z Z.heap Road.SN "COMPACT_STRINGS" "Z" (.int cp)) (hcp : ¬ cp = 0) :
    Road.Con l Z consts_1 n0 false bIsL [] σ #[(.ref a)] h0 (fun v h2 _ => v = some (.int 1) ∧ h0 = h2) := by
  refine Road.Con.of bIsL_pn hEW #[.val (.ref a)] (fun m => Road.ent (Road.laid1 rfl Road.laid0) (k := 0) rfl rfl) ?_
  intro D hD
  refine Road.getstatic 0 bIsL_d0 (wI hw 16 rfl) Via.refl Hc ?_
  refine Road.if_eq 3 17 bIsL_d3 rfl (fun q => absurd q hcp) (fun hc3 => ?_)
  refine Road.aloadN 6 bIsL_d6 rfl ?_
  refine Road.getfield 7 bIsL_d7 (wI hw 28 rfl) Via.refl Fc ?_
  refine Road.if_ne 10 17 bIsL_d10 rfl (fun q => absurd q (by decide)) (fun hc10 => ?_)
  refine Road.iconst 13 (1 : Int32) bIsL_d13 rfl ?_
  refine Road.goto 14 18 bIsL_d14 rfl ?_
  exact Road.iret 18 1 bIsL_d18 (t := .boolean) rfl (by simp) rfl (by decide) (by decide) (fun σ' m => ⟨rfl, rfl⟩)
def bPre : Road.Bdy := (⟨"jdk/internal/util/Preconditions", "checkIndex", "(IILjava/util/function/BiFunction;)I"⟩, jdk_41_method_11_code, 3, (some .int), { frames := 0, cells := 0, slots := 0, locals := 0 })
theorem bPre_d0 : decode bPre.bs 0 = .ok (.iload_n 0, 1) := by decide +kernel
theorem bPre_d1 : decode bPre.bs 1 = .ok (.ifCond .lt 8, 3) := by decide +kernel
theorem bPre_d4 : decode bPre.bs 4 = .ok (.iload_n 0, 1) := by decide +kernel
theorem bPre_d5 : decode bPre.bs 5 = .ok (.iload_n 1, 1) := by decide +kernel
theorem bPre_d6 : decode bPre.bs 6 = .ok (.if_icmp .lt 10, 3) := by decide +kernel
theorem bPre_d9 : decode bPre.bs 9 = .ok (.aload_n 2, 1) := by decide +kernel
theorem bPre_d10 : decode bPre.bs 10 = .ok (.iload_n 0, 1) := by decide +kernel
theorem bPre_d11 : decode bPre.bs 11 = .ok (.iload_n 1, 1) := by decide +kernel
theorem bPre_d12 : decode bPre.bs 12 = .ok (.invokestatic 95, 3) := by decide +kernel
theorem bPre_d15 : decode bPre.bs 15 = .ok (.athrow, 1) := by decide +kernel
theorem bPre_d16 : decode bPre.bs 16 = .ok (.iload_n 0, 1) := by decide +kernel
theorem bPre_d17 : decode bPre.bs 17 = .ok (.ireturn, 1) := by decide +kernel
theorem bPre_pd : parseMethodDescriptor "(IILjava/util/function/BiFunction;)I" = some ⟨[.int, .int, (.object "java/util/function/BiFunction")], (some .int)⟩ := by decide +kernel
theorem bPre_pn : plainFor bPre.y = true := plainFor_of_name (show plainName "jdk/internal/util/Preconditions" = true from by first | (simp [plainName, overriddenIn]; done) | decide +kernel)
theorem cPre (l : Launch) (Z : State) (a0 : Array Value) (hw : ∀ d ∈ tables_1, d.before a0 Z = true) (n0 : Nat) (hEW : EW Z a0 consts_1) (j n : Int32) (fm : Value) (h0 : Heap) (σ : Addr → Prop) (hfm : fm.isRef = true) (hj : ¬ j < 0) (hjn : j < n) :
    Road.Con l Z consts_1 n0 false bPre [] σ #[(.int j), (.int n), fm] h0 (fun v h2 _ => v = some (.int j) ∧ h0 = h2) := by
  refine Road.Con.of bPre_pn hEW #[.val (.int j), .val (.int n), .val fm] (fun m => Road.ent (Road.laid1 rfl (Road.laid1 rfl (Road.laid1 (XT.cat1 hfm) Road.laid0))) (k := 0) rfl rfl) ?_
  intro D hD
  refine Road.iloadN 0 bPre_d0 rfl ?_
  refine Road.if_lt 1 9 bPre_d1 rfl (fun q => absurd q hj) (fun hc1 => ?_)
  refine Road.iloadN 4 bPre_d4 rfl ?_
  refine Road.iloadN 5 bPre_d5 rfl ?_
  refine Road.icmp_lt 6 16 bPre_d6 rfl (fun hc6 => ?_) (fun q => absurd q (by simpa using hjn))
  refine Road.iloadN 16 bPre_d16 rfl ?_
  exact Road.iretI 17 bPre_d17 rfl (by decide) (by decide) (fun σ' m => ⟨rfl, rfl⟩)
def bChk : Road.Bdy := (⟨"java/lang/String", "checkIndex", "(II)V"⟩, jdk_42_method_155_code, 2, none, { frames := 1, cells := 0, slots := 0, locals := 14 })
theorem bChk_d0 : decode bChk.bs 0 = .ok (.iload_n 0, 1) := by decide +kernel
theorem bChk_d1 : decode bChk.bs 1 = .ok (.iload_n 1, 1) := by decide +kernel
theorem bChk_d2 : decode bChk.bs 2 = .ok (.getstatic 1053, 3) := by decide +kernel
theorem bChk_d5 : decode bChk.bs 5 = .ok (.invokestatic 1059, 3) := by decide +kernel
theorem bChk_d8 : decode bChk.bs 8 = .ok (.pop, 1) := by decide +kernel
theorem bChk_d9 : decode bChk.bs 9 = .ok (.return_, 1) := by decide +kernel
theorem bChk_pd : parseMethodDescriptor "(II)V" = some ⟨[.int, .int], none⟩ := by decide +kernel
theorem bChk_pn : plainFor bChk.y = true := plainFor_of_name (show plainName "java/lang/String" = true from by first | (simp [plainName, overriddenIn]; done) | decide +kernel)
theorem cChk (l : Launch) (Z : State) (a0 : Array Value) (hw : ∀ d ∈ tables_1, d.before a0 Z = true) (n0 : Nat) (hEW : EW Z a0 consts_1) (j n : Int32) (h0 : Heap) (σ : Addr → Prop) (fm : Value) (hfm : fm.isRef = true) (Hf : Sta Z Z.heap "jdk/internal/util/Preconditions" "SIOOBE_FORMATTER" "Ljava/util/function/BiFunction;" fm) (hj : ¬ j < 0) (hjn : j < n) :
    Road.Con l Z consts_1 n0 false bChk [] σ #[(.int j), (.int n)] h0 (fun v h2 _ => v = none ∧ h0 = h2) := by
  refine Road.Con.of bChk_pn hEW #[.val (.int j), .val (.int n)] (fun m => Road.ent (Road.laid1 rfl (Road.laid1 rfl Road.laid0)) (k := 0) rfl rfl) ?_
  intro D hD
  refine Road.iloadN 0 bChk_d0 rfl ?_
  refine Road.iloadN 1 bChk_d1 rfl ?_
  refine Road.getstatic 2 bChk_d2 (wI hw 296 rfl) Via.refl Hf ?_
  refine Road.callS (B' := bPre) 5 (argsL := [(.int j), (.int n), fm]) (rest := []) 0 bChk_d5 (wI hw 297 rfl) (wI hw 298 rfl) (wI hw 119 rfl) (wI hw 299 rfl) (by decide) (cPre l Z a0 hw n0 hEW j n fm h0 σ hfm hj hjn) (lenOf bPre_pd rfl) rfl rfl rfl (by decide) (by decide) (ce' := 0) (sl' := 0) rfl rfl (by decide) (by decide) ?_
  rintro _ h_1 σ_2 m_3 ⟨rfl, rfl⟩
  refine Road.Go.weaken (σ' := σ) m_3 (Nat.le_refl _) (Nat.le_refl _) ?_
  refine Road.pop 8 bChk_d8 ?_
  exact Road.ret 9 bChk_d9 rfl (by decide) (by decide) (fun σ' m => ⟨rfl, rfl⟩)
def bLch : Road.Bdy := (⟨"java/lang/StringLatin1", "charAt", "([BI)C"⟩, jdk_43_method_2_code, 2, (some .char), { frames := 2, cells := 0, slots := 0, locals := 27 })
theorem bLch_d0 : decode bLch.bs 0 = .ok (.iload_n 1, 1) := by decide +kernel
theorem bLch_d1 : decode bLch.bs 1 = .ok (.aload_n 0, 1) := by decide +kernel
theorem bLch_d2 : decode bLch.bs 2 = .ok (.arraylength, 1) := by decide +kernel
theorem bLch_d3 : decode bLch.bs 3 = .ok (.invokestatic 9, 3) := by decide +kernel
theorem bLch_d6 : decode bLch.bs 6 = .ok (.aload_n 0, 1) := by decide +kernel
theorem bLch_d7 : decode bLch.bs 7 = .ok (.iload_n 1, 1) := by decide +kernel
theorem bLch_d8 : decode bLch.bs 8 = .ok (.baload, 1) := by decide +kernel
theorem bLch_d9 : decode bLch.bs 9 = .ok (.sipush 255, 3) := by decide +kernel
theorem bLch_d12 : decode bLch.bs 12 = .ok (.iand, 1) := by decide +kernel
theorem bLch_d13 : decode bLch.bs 13 = .ok (.i2c, 1) := by decide +kernel
theorem bLch_d14 : decode bLch.bs 14 = .ok (.ireturn, 1) := by decide +kernel
theorem bLch_pd : parseMethodDescriptor "([BI)C" = some ⟨[(.array .byte), .int], (some .char)⟩ := by decide +kernel
theorem bLch_pn : plainFor bLch.y = true := plainFor_of_name (show plainName "java/lang/StringLatin1" = true from by first | (simp [plainName, overriddenIn]; done) | decide +kernel)
theorem cLch (l : Launch) (Z : State) (a0 : Array Value) (hw : ∀ d ∈ tables_1, d.before a0 Z = true) (n0 : Nat) (hEW : EW Z a0 consts_1) (b : Addr) (cs : List Int32) (j : Int32) (i : Nat) (h0 : Heap) (σ : Addr → Prop) (A : Road.Ary Z h0 b .byte (cs.map Road.byt)) (hlat : ∀ c ∈ cs, 0 ≤ c.toInt ∧ c.toInt < 256) (hj : j.toInt = (i : Int)) (hi : i < cs.length) (fm : Value) (hfm : fm.isRef = true) (Hf : Sta Z Z.heap "jdk/internal/util/Preconditions" "SIOOBE_FORMATTER" "Ljava/util/function/BiFunction;" fm) :
    Road.Con l Z consts_1 n0 false bLch [] σ #[(.ref b), (.int j)] h0 (fun v h2 _ => v = some (.int cs[i]) ∧ h0 = h2) := by
  refine Road.Con.of bLch_pn hEW #[.val (.ref b), .val (.int j)] (fun m => Road.ent (Road.laid1 rfl (Road.laid1 rfl Road.laid0)) (k := 0) rfl rfl) ?_
  intro D hD
  have hn : cs.length < 2147483648 := by have := A.small; rwa [List.length_map] at this
  have hjn : j < Nat.toInt32 cs.length := by rw [Int32.lt_iff_toInt_lt, Road.n32 hn, hj]; omega
  refine Road.iloadN 0 bLch_d0 rfl ?_
  refine Road.aloadN 1 bLch_d1 rfl ?_
  refine Road.alen 2 (Nat.toInt32 cs.length) bLch_d2 A (n := cs.length) (List.length_map _) rfl ?_
  refine Road.callS (B' := bChk) 3 (argsL := [(.int j), (.int (Nat.toInt32 cs.length))]) (rest := []) 0 bLch_d3 (wI hw 293 rfl) (wI hw 294 rfl) (wI hw 5 rfl) (wI hw 295 rfl) (by decide) (cChk l Z a0 hw n0 hEW j (Nat.toInt32 cs.length) h0 σ fm hfm Hf (Road.ix_of hj).1 hjn) (lenOf bChk_pd rfl) rfl rfl rfl (by decide) (by decide) (ce' := 0) (sl' := 0) rfl rfl (by decide) (by decide) ?_
  rintro _ h_1 σ_2 m_3 ⟨rfl, rfl⟩
  refine Road.Go.weaken (σ' := σ) m_3 (Nat.le_refl _) (Nat.le_refl _) ?_
  refine Road.aloadN 6 bLch_d6 rfl ?_
  refine Road.iloadN 7 bLch_d7 rfl ?_
  refine Road.baload 8 i bLch_d8 A hj (by rw [List.getElem?_map, List.getElem?_eq_getElem hi]; rfl) ?_
  refine Road.sipush 9 (255 : Int32) bLch_d9 rfl ?_
  refine Road.iand 12 bLch_d12 ?_
  refine Road.i2c 13 bLch_d13 ?_
  exact Road.iret 14 cs[i] bLch_d14 (t := .char) rfl (by simp) (Road.byte_back (hlat _ (List.getElem_mem hi))) (by decide) (by decide) (fun σ' m => ⟨rfl, rfl⟩)
def bChA : Road.Bdy := (⟨"java/lang/String", "charAt", "(I)C"⟩, jdk_42_method_56_code, 2, (some .char), { frames := 3, cells := 0, slots := 0, locals := 40 })
theorem bChA_d0 : decode bChA.bs 0 = .ok (.aload_n 0, 1) := by decide +kernel
theorem bChA_d1 : decode bChA.bs 1 = .ok (.invokevirtual 492, 3) := by decide +kernel
theorem bChA_d4 : decode bChA.bs 4 = .ok (.ifCond .eq 12, 3) := by decide +kernel
theorem bChA_d7 : decode bChA.bs 7 = .ok (.aload_n 0, 1) := by decide +kernel
theorem bChA_d8 : decode bChA.bs 8 = .ok (.getfield 9, 3) := by decide +kernel
theorem bChA_d11 : decode bChA.bs 11 = .ok (.iload_n 1, 1) := by decide +kernel
theorem bChA_d12 : decode bChA.bs 12 = .ok (.invokestatic 495, 3) := by decide +kernel
theorem bChA_d15 : decode bChA.bs 15 = .ok (.ireturn, 1) := by decide +kernel
theorem bChA_d16 : decode bChA.bs 16 = .ok (.aload_n 0, 1) := by decide +kernel
theorem bChA_d17 : decode bChA.bs 17 = .ok (.getfield 9, 3) := by decide +kernel
theorem bChA_d20 : decode bChA.bs 20 = .ok (.iload_n 1, 1) := by decide +kernel
theorem bChA_d21 : decode bChA.bs 21 = .ok (.invokestatic 498, 3) := by decide +kernel
theorem bChA_d24 : decode bChA.bs 24 = .ok (.ireturn, 1) := by decide +kernel
theorem bChA_pd : parseMethodDescriptor "(I)C" = some ⟨[.int], (some .char)⟩ := by decide +kernel
theorem bChA_pn : plainFor bChA.y = true := plainFor_of_name (show plainName "java/lang/String" = true from by first | (simp [plainName, overriddenIn]; done) | decide +kernel)
theorem cChA (l : Launch) (Z : State) (a0 : Array Value) (hw : ∀ d ∈ tables_1, d.before a0 Z = true) (n0 : Nat) (hEW : EW Z a0 consts_1) (a b : Addr) (cs : List Int32) (j : Int32) (i : Nat) (h0 : Heap) (σ : Addr → Prop) (S : Road.Str Z h0 a b cs) (hj : j.toInt = (i : Int)) (hi : i < cs.length) (cp : Int32) (Hc : Sta Z Z.heap Road.SN "COMPACT_STRINGS" "Z" (.int cp)) (hcp : ¬ cp = 0) (fm : Value) (hfm : fm.isRef = true) (Hf : Sta Z Z.heap "jdk/internal/util/Preconditions" "SIOOBE_FORMATTER" "Ljava/util/function/BiFunction;" fm) :
    Road.Con l Z consts_1 n0 false bChA [] σ #[(.ref a), (.int j)] h0 (fun v h2 _ => v = some (.int cs[i]) ∧ h0 = h2) := by
  refine Road.Con.of bChA_pn hEW #[.val (.ref a), .val (.int j)] (fun m => Road.ent (Road.laid1 rfl (Road.laid1 rfl Road.laid0)) (k := 0) rfl rfl) ?_
  intro D hD
  refine Road.aloadN 0 bChA_d0 rfl ?_
  refine Road.callV (B' := bIsL) (a := a) 1 (argsL := []) (rest := []) "java/lang/String" 0 bChA_d1 (wI hw 64 rfl) (wI hw 65 rfl) (fun vm hz => Road.notFace_sib (args := #[]) (mv (s := D.s.setVm vm) hz (wI hw 57 rfl)) rfl) (wI hw 67 rfl) (wI hw 66 rfl) (wI hw 5 rfl) (wI hw 68 rfl) (by decide) S.1 (cIsL l Z a0 hw n0 hEW a h0 σ S.2.1 cp Hc hcp) (lenOf bIsL_pd rfl) rfl rfl rfl (by decide) (by decide) (ce' := 0) (sl' := 0) rfl rfl (by decide) (by decide) ?_
  rintro _ h_1 σ_2 m_3 ⟨rfl, rfl⟩
  refine Road.Go.weaken (σ' := σ) m_3 (Nat.le_refl _) (Nat.le_refl _) ?_
  refine Road.if_eq 4 16 bChA_d4 rfl (fun q => absurd q (by decide)) (fun hc4 => ?_)
  refine Road.aloadN 7 bChA_d7 rfl ?_
  refine Road.getfield 8 bChA_d8 (wI hw 30 rfl) Via.refl S.2.2.1 ?_
  refine Road.iloadN 11 bChA_d11 rfl ?_
  refine Road.callS (B' := bLch) 12 (argsL := [(.ref b), (.int j)]) (rest := []) 0 bChA_d12 (wI hw 290 rfl) (wI hw 291 rfl) (wI hw 71 rfl) (wI hw 292 rfl) (by decide) (cLch l Z a0 hw n0 hEW b cs j i h0 σ S.2.2.2.1 S.2.2.2.2 hj hi fm hfm Hf) (lenOf bLch_pd rfl) rfl rfl rfl (by decide) (by decide) (ce' := 0) (sl' := 0) rfl rfl (by decide) (by decide) ?_
  rintro _ h_5 σ_6 m_7 ⟨rfl, rfl⟩
  refine Road.Go.weaken (σ' := σ) m_7 (Nat.le_refl _) (Nat.le_refl _) ?_
  exact Road.iret 15 cs[i] bChA_d15 (t := .char) rfl (by simp) (Road.nar_lat (S.2.2.2.2 _ (List.getElem_mem hi))) (by decide) (by decide) (fun σ' m => ⟨rfl, rfl⟩)
def bEmp : Road.Bdy := (⟨"java/lang/String", "isEmpty", "()Z"⟩, jdk_42_method_55_code, 1, (some .boolean), { frames := 0, cells := 0, slots := 0, locals := 0 })
theorem bEmp_d0 : decode bEmp.bs 0 = .ok (.aload_n 0, 1) := by decide +kernel
theorem bEmp_d1 : decode bEmp.bs 1 = .ok (.getfield 9, 3) := by decide +kernel
theorem bEmp_d4 : decode bEmp.bs 4 = .ok (.arraylength, 1) := by decide +kernel
theorem bEmp_d5 : decode bEmp.bs 5 = .ok (.ifCond .ne 7, 3) := by decide +kernel
theorem bEmp_d8 : decode bEmp.bs 8 = .ok (.iconst 1, 1) := by decide +kernel
theorem bEmp_d9 : decode bEmp.bs 9 = .ok (.goto 4, 3) := by decide +kernel
theorem bEmp_d12 : decode bEmp.bs 12 = .ok (.iconst 0, 1) := by decide +kernel
theorem bEmp_d13 : decode bEmp.bs 13 = .ok (.ireturn, 1) := by decide +kernel
theorem bEmp_pd : parseMethodDescriptor "()Z" = some ⟨[], (some .boolean)⟩ := by decide +kernel
theorem bEmp_pn : plainFor bEmp.y = true := plainFor_of_name (show plainName "java/lang/String" = true from by first | (simp [plainName, overriddenIn]; done) | decide +kernel)
theorem cEmp (l : Launch) (Z : State) (a0 : Array Value) (hw : ∀ d ∈ tables_1, d.before a0 Z = true) (n0 : Nat) (hEW : EW Z a0 consts_1) (a b : Addr) (cs : List Int32) (h0 : Heap) (σ : Addr → Prop) (S : Road.Str Z h0 a b cs) :
    Road.Con l Z consts_1 n0 false bEmp [] σ #[(.ref a)] h0 (fun v h2 _ => v = some (.int (if cs = [] then 1 else 0)) ∧ h0 = h2) := by
  refine Road.Con.of bEmp_pn hEW #[.val (.ref a)] (fun m => Road.ent (Road.laid1 rfl Road.laid0) (k := 0) rfl rfl) ?_
  intro D hD
  have hn : cs.length < 2147483648 := by have := S.2.2.2.1.small; rwa [List.length_map] at this
  refine Road.aloadN 0 bEmp_d0 rfl ?_
  refine Road.getfield 1 bEmp_d1 (wI hw 30 rfl) Via.refl S.2.2.1 ?_
  refine Road.alen 4 (Nat.toInt32 cs.length) bEmp_d4 S.2.2.2.1 (n := cs.length) (List.length_map _) rfl ?_
  refine Road.if_ne 5 12 bEmp_d5 rfl (fun hc5 => ?_) (fun hc5 => ?_)
  · skip
    refine Road.iconst 12 (0 : Int32) bEmp_d12 rfl ?_
    exact Road.iret 13 0 bEmp_d13 (t := .boolean) rfl (by simp) rfl (by decide) (by decide) (fun σ' m => ⟨by rw [if_neg]; rintro rfl; exact hc5 rfl, rfl⟩)
  · skip
    refine Road.iconst 8 (1 : Int32) bEmp_d8 rfl ?_
    refine Road.goto 9 13 bEmp_d9 rfl ?_
    exact Road.iret 13 1 bEmp_d13 (t := .boolean) rfl (by simp) rfl (by decide) (by decide) (fun σ' m => ⟨by rw [if_pos (List.eq_nil_of_length_eq_zero ((Road.eq32 (j := 0) hn (by omega)).mp hc5))], rfl⟩)
def bRec : Road.Bdy := (⟨"java/lang/Record", "<init>", "()V"⟩, jdk_30_method_1_code, 1, none, { frames := 1, cells := 0, slots := 0, locals := 12 })
theorem bRec_d0 : decode bRec.bs 0 = .ok (.aload_n 0, 1) := by decide +kernel
theorem bRec_d1 : decode bRec.bs 1 = .ok (.invokespecial 1, 3) := by decide +kernel
theorem bRec_d4 : decode bRec.bs 4 = .ok (.return_, 1) := by decide +kernel
theorem bRec_pd : parseMethodDescriptor "()V" = some ⟨[], none⟩ := by decide +kernel
theorem bRec_pn : plainFor bRec.y = true := plainFor_of_name (show plainName "java/lang/Record" = true from by first | (simp [plainName, overriddenIn]; done) | decide +kernel)
theorem cRec (l : Launch) (Z : State) (a0 : Array Value) (hw : ∀ d ∈ tables_1, d.before a0 Z = true) (n0 : Nat) (hEW : EW Z a0 consts_1) (a : Addr) (h0 : Heap) (σ : Addr → Prop) :
    Road.Con l Z consts_1 n0 false bRec [] σ #[(.ref a)] h0 (fun v h2 _ => v = none ∧ h0 = h2) := by
  refine Road.Con.of bRec_pn hEW #[.val (.ref a)] (fun m => Road.ent (Road.laid1 rfl Road.laid0) (k := 0) rfl rfl) ?_
  intro D hD
  refine Road.aloadN 0 bRec_d0 rfl ?_
  refine Road.initObj 1 bRec_d1 (wI hw 46 rfl) (wI hw 14 rfl) (wI hw 15 rfl) 0 rfl rfl (by decide) (by decide) ?_
  exact Road.ret 4 bRec_d4 rfl (by decide) (by decide) (fun σ' m => ⟨rfl, rfl⟩)
def AL : List Int32 := [1207963663, 1207963663, 1207963663, 1207963663, 1207963663, 1207963663, 1207963663, 1207963663, 1207963663, 1476411407, 1342193679, 1476411407, 1610629135, 1342193679, 1207963663, 1207963663, 1207963663, 1207963663, 1207963663, 1207963663, 1207963663, 1207963663, 1207963663, 1207963663, 1207963663, 1207963663, 1207963663, 1207963663, 1342193679, 1342193679, 1342193679, 1476411407, 1610629132, 1744830488, 1744830488, 671088664, 671113242, 671088664, 1744830488, 1744830488, -402653163, -402653162, 1744830488, 536870937, 939524120, 536870932, 939524120, 939524120, 402667017, 402667017, 402667017, 402667017, 402667017, 402667017, 402667017, 402667017, 402667017, 402667017, 939524120, 1744830488, -402653159, 1744830489, -402653159, 1744830488, 1744830488, 8552417, 8552417, 8552417, 8552417, 8552417, 8552417, 8552417, 8552417, 8552417, 8552417, 8552417, 8552417, 8552417, 8552417, 8552417, 8552417, 8552417, 8552417, 8552417, 8552417, 8552417, 8552417, 8552417, 8552417, 8552417, 8552417, -402653163, 1744830488, -402653162, 1744830491, 1744850967, 1744830491, 8486882, 8486882, 8486882, 8486882, 8486882, 8486882, 8486882, 8486882, 8486882, 8486882, 8486882, 8486882, 8486882, 8486882, 8486882, 8486882, 8486882, 8486882, 8486882, 8486882, 8486882, 8486882, 8486882, 8486882, 8486882, 8486882, -402653163, 1744830489, -402653162, 1744830489, 1207963663, 1207963663, 1207963663, 1207963663, 1207963663, 1207963663, 1342181391, 1207963663, 1207963663, 1207963663, 1207963663, 1207963663, 1207963663, 1207963663, 1207963663, 1207963663, 1207963663, 1207963663, 1207963663, 1207963663, 1207963663, 1207963663, 1207963663, 1207963663, 1207963663, 1207963663, 1207963663, 1207963663, 1207963663, 1207963663, 1207963663, 1207963663, 1207963663, 939524108, 1744830488, 671113242, 671113242, 671113242, 671113242, 1744830492, 1744830488, 1744830491, 1744830492, 28677, -402653155, 1744830489, 1207963664, 1744830492, 1744830491, 671088668, 671088665, 402654731, 402654731, 1744830491, 134049794, 1744830488, 1744830488, 1744830491, 402654475, 28677, -402653154, 1744832523, 1744832523, 1744832523, 1744830488, 8548353, 8548353, 8548353, 8548353, 8548353, 8548353, 8548353, 8548353, 8548353, 8548353, 8548353, 8548353, 8548353, 8548353, 8548353, 8548353, 8548353, 8548353, 8548353, 8548353, 8548353, 8548353, 8548353, 1744830489, 8548353, 8548353, 8548353, 8548353, 8548353, 8548353, 8548353, 134049794, 8482818, 8482818, 8482818, 8482818, 8482818, 8482818, 8482818, 8482818, 8482818, 8482818, 8482818, 8482818, 8482818, 8482818, 8482818, 8482818, 8482818, 8482818, 8482818, 8482818, 8482818, 8482818, 8482818, 1744830489, 8482818, 8482818, 8482818, 8482818, 8482818, 8482818, 8482818, 102592514]
theorem AL_len : AL.length = 256 := rfl
theorem AL_sets : ∀ i : Fin 256, jdkStatics_1[17 + i.1]? = some (Jvm.Cond.eq (Term.elem (Term.static "java/lang/CharacterDataLatin1" "A" "[I") (Term.int (Nat.toInt32 i.1))) (Term.int (AL[i.1]'(by rw [AL_len]; exact i.2)))) := by decide +kernel
theorem AL_no : ∀ i : Fin 256, 33 ≤ i.1 → (AL[i.1]'(by rw [AL_len]; exact i.2)) &&& 28672 ≠ 16384 := by decide +kernel
def bGpr : Road.Bdy := (⟨"java/lang/CharacterDataLatin1", "getProperties", "(I)I"⟩, jdk_116_method_1_code, 4, (some .int), { frames := 0, cells := 0, slots := 0, locals := 0 })
theorem bGpr_d0 : decode bGpr.bs 0 = .ok (.iload_n 1, 1) := by decide +kernel
theorem bGpr_d1 : decode bGpr.bs 1 = .ok (.i2c, 1) := by decide +kernel
theorem bGpr_d2 : decode bGpr.bs 2 = .ok (.istore_n 2, 1) := by decide +kernel
theorem bGpr_d3 : decode bGpr.bs 3 = .ok (.getstatic 1, 3) := by decide +kernel
theorem bGpr_d6 : decode bGpr.bs 6 = .ok (.iload_n 2, 1) := by decide +kernel
theorem bGpr_d7 : decode bGpr.bs 7 = .ok (.iaload, 1) := by decide +kernel
theorem bGpr_d8 : decode bGpr.bs 8 = .ok (.istore_n 3, 1) := by decide +kernel
theorem bGpr_d9 : decode bGpr.bs 9 = .ok (.iload_n 3, 1) := by decide +kernel
theorem bGpr_d10 : decode bGpr.bs 10 = .ok (.ireturn, 1) := by decide +kernel
theorem bGpr_pd : parseMethodDescriptor "(I)I" = some ⟨[.int], (some .int)⟩ := by decide +kernel
theorem bGpr_pn : plainFor bGpr.y = true := plainFor_of_name (show plainName "java/lang/CharacterDataLatin1" = true from by first | (simp [plainName, overriddenIn]; done) | decide +kernel)
theorem cGpr (l : Launch) (Z : State) (a0 : Array Value) (hw : ∀ d ∈ tables_1, d.before a0 Z = true) (n0 : Nat) (hEW : EW Z a0 consts_1) (i : Nat) (hi : i < AL.length) (ci oA : Addr) (Ei : Exa Z Z.heap ci "java/lang/CharacterDataLatin1") (Hi : Sta Z Z.heap "java/lang/CharacterDataLatin1" "instance" "Ljava/lang/CharacterDataLatin1;" (.ref ci)) (HA : Sta Z Z.heap "java/lang/CharacterDataLatin1" "A" "[I" (.ref oA)) (AA : Road.Ary Z Z.heap oA .int (AL.map .int)) (h0 : Heap) (σ : Addr → Prop) :
    Road.Con l Z consts_1 n0 false bGpr [] σ #[(.ref ci), (.int (Nat.toInt32 i))] h0 (fun v h2 _ => v = some (.int AL[i]) ∧ h0 = h2) := by
  refine Road.Con.of bGpr_pn hEW #[.val (.ref ci), .val (.int (Nat.toInt32 i)), .unset, .unset] (fun m => Road.ent (Road.laid1 rfl (Road.laid1 rfl Road.laid0)) (k := 2) rfl rfl) ?_
  intro D hD
  have hi' : i < 256 := hi
  refine Road.Go.old ?_
  intro hO
  have A := AA.old hO
  refine Road.iloadN 0 bGpr_d0 rfl ?_
  refine Road.i2c 1 bGpr_d1 ?_
  refine Road.nameI ?_
  intro z_1 hz_1
  obtain rfl : z_1 = (Nat.toInt32 i) := by rw [hz_1]; exact Road.chr_id (by rw [Road.u32_nat]; omega)
  refine Road.istoreN 2 #[.val (.ref ci), .val (.int (Nat.toInt32 i)), .val (.int (Nat.toInt32 i)), .unset] bGpr_d2 rfl ?_
  refine Road.getstatic 3 bGpr_d3 (wI hw 88 rfl) Via.refl HA ?_
  refine Road.iloadN 6 bGpr_d6 rfl ?_
  refine Road.iaload 7 i bGpr_d7 A (Road.n32 (by omega)) (by rw [List.getElem?_map, List.getElem?_eq_getElem hi]; rfl) ?_
  refine Road.istoreN 8 #[.val (.ref ci), .val (.int (Nat.toInt32 i)), .val (.int (Nat.toInt32 i)), .val (.int AL[i])] bGpr_d8 rfl ?_
  refine Road.iloadN 9 bGpr_d9 rfl ?_
  exact Road.iretI 10 bGpr_d10 rfl (by decide) (by decide) (fun σ' m => ⟨rfl, rfl⟩)
def bIsw : Road.Bdy := (⟨"java/lang/CharacterDataLatin1", "isWhitespace", "(I)Z"⟩, jdk_116_method_26_code, 3, (some .boolean), { frames := 1, cells := 0, slots := 0, locals := 15 })
theorem bIsw_d0 : decode bIsw.bs 0 = .ok (.aload_n 0, 1) := by decide +kernel
theorem bIsw_d1 : decode bIsw.bs 1 = .ok (.iload_n 1, 1) := by decide +kernel
theorem bIsw_d2 : decode bIsw.bs 2 = .ok (.invokevirtual 15, 3) := by decide +kernel
theorem bIsw_d5 : decode bIsw.bs 5 = .ok (.istore_n 2, 1) := by decide +kernel
theorem bIsw_d6 : decode bIsw.bs 6 = .ok (.iload_n 2, 1) := by decide +kernel
theorem bIsw_d7 : decode bIsw.bs 7 = .ok (.sipush 28672, 3) := by decide +kernel
theorem bIsw_d10 : decode bIsw.bs 10 = .ok (.iand, 1) := by decide +kernel
theorem bIsw_d11 : decode bIsw.bs 11 = .ok (.sipush 16384, 3) := by decide +kernel
theorem bIsw_d14 : decode bIsw.bs 14 = .ok (.if_icmp .ne 7, 3) := by decide +kernel
theorem bIsw_d17 : decode bIsw.bs 17 = .ok (.iconst 1, 1) := by decide +kernel
theorem bIsw_d18 : decode bIsw.bs 18 = .ok (.goto 4, 3) := by decide +kernel
theorem bIsw_d21 : decode bIsw.bs 21 = .ok (.iconst 0, 1) := by decide +kernel
theorem bIsw_d22 : decode bIsw.bs 22 = .ok (.ireturn, 1) := by decide +kernel
theorem bIsw_pd : parseMethodDescriptor "(I)Z" = some ⟨[.int], (some .boolean)⟩ := by decide +kernel
theorem bIsw_pn : plainFor bIsw.y = true := plainFor_of_name (show plainName "java/lang/CharacterDataLatin1" = true from by first | (simp [plainName, overriddenIn]; done) | decide +kernel)
theorem cIsw (l : Launch) (Z : State) (a0 : Array Value) (hw : ∀ d ∈ tables_1, d.before a0 Z = true) (n0 : Nat) (hEW : EW Z a0 consts_1) (i : Nat) (h0 : Heap) (σ : Addr → Prop) (hi : i < AL.length) (h33 : 33 ≤ i) (ci oA : Addr) (Ei : Exa Z Z.heap ci "java/lang/CharacterDataLatin1") (Hi : Sta Z Z.heap "java/lang/CharacterDataLatin1" "instance" "Ljava/lang/CharacterDataLatin1;" (.ref ci)) (HA : Sta Z Z.heap "java/lang/CharacterDataLatin1" "A" "[I" (.ref oA)) (AA : Road.Ary Z Z.heap oA .int (AL.map .int)) :
    Road.Con l Z consts_1 n0 false bIsw [] σ #[(.ref ci), (.int (Nat.toInt32 i))] h0 (fun v h2 _ => v = some (.int 0) ∧ h0 = h2) := by
  have hno := AL_no ⟨i, hi⟩ h33
  refine Road.Con.of bIsw_pn hEW #[.val (.ref ci), .val (.int (Nat.toInt32 i)), .unset] (fun m => Road.ent (Road.laid1 rfl (Road.laid1 rfl Road.laid0)) (k := 1) rfl rfl) ?_
  intro D hD
  refine Road.Go.old ?_
  intro hO
  have Eo : Exa Z h0 ci "java/lang/CharacterDataLatin1" := Ei.ext hO.2
  refine Road.aloadN 0 bIsw_d0 rfl ?_
  refine Road.iloadN 1 bIsw_d1 rfl ?_
  refine Road.callV (B' := bGpr) (a := ci) 2 (argsL := [(.int (Nat.toInt32 i))]) (rest := []) "java/lang/CharacterDataLatin1" 0 bIsw_d2 (wI hw 83 rfl) (wI hw 84 rfl) (fun vm hz => Road.notFace_sib (args := #[]) (mv (s := D.s.setVm vm) hz (wI hw 81 rfl)) rfl) (wI hw 86 rfl) (wI hw 85 rfl) (wI hw 77 rfl) (wI hw 87 rfl) (by decide) Eo (cGpr l Z a0 hw n0 hEW i hi ci oA Ei Hi HA AA h0 σ) (lenOf bGpr_pd rfl) rfl rfl rfl (by decide) (by decide) (ce' := 0) (sl' := 0) rfl rfl (by decide) (by decide) ?_
  rintro _ h_1 σ_2 m_3 ⟨rfl, rfl⟩
  refine Road.Go.weaken (σ' := σ) m_3 (Nat.le_refl _) (Nat.le_refl _) ?_
  refine Road.istoreN 5 #[.val (.ref ci), .val (.int (Nat.toInt32 i)), .val (.int AL[i])] bIsw_d5 rfl ?_
  refine Road.iloadN 6 bIsw_d6 rfl ?_
  refine Road.sipush 7 (28672 : Int32) bIsw_d7 rfl ?_
  refine Road.iand 10 bIsw_d10 ?_
  refine Road.sipush 11 (16384 : Int32) bIsw_d11 rfl ?_
  refine Road.icmp_ne 14 21 bIsw_d14 rfl (fun hc14 => ?_) (fun q => absurd q hno)
  refine Road.iconst 21 (0 : Int32) bIsw_d21 rfl ?_
  exact Road.iret 22 0 bIsw_d22 (t := .boolean) rfl (by simp) rfl (by decide) (by decide) (fun σ' m => ⟨rfl, rfl⟩)
def bGtc : Road.Bdy := (⟨"java/lang/StringLatin1", "getChar", "([BI)C"⟩, jdk_43_method_44_code, 2, (some .char), { frames := 0, cells := 0, slots := 0, locals := 0 })
theorem bGtc_d0 : decode bGtc.bs 0 = .ok (.aload_n 0, 1) := by decide +kernel
theorem bGtc_d1 : decode bGtc.bs 1 = .ok (.iload_n 1, 1) := by decide +kernel
theorem bGtc_d2 : decode bGtc.bs 2 = .ok (.baload, 1) := by decide +kernel
theorem bGtc_d3 : decode bGtc.bs 3 = .ok (.sipush 255, 3) := by decide +kernel
theorem bGtc_d6 : decode bGtc.bs 6 = .ok (.iand, 1) := by decide +kernel
theorem bGtc_d7 : decode bGtc.bs 7 = .ok (.i2c, 1) := by decide +kernel
theorem bGtc_d8 : decode bGtc.bs 8 = .ok (.ireturn, 1) := by decide +kernel
theorem bGtc_pd : parseMethodDescriptor "([BI)C" = some ⟨[(.array .byte), .int], (some .char)⟩ := by decide +kernel
theorem bGtc_pn : plainFor bGtc.y = true := plainFor_of_name (show plainName "java/lang/StringLatin1" = true from by first | (simp [plainName, overriddenIn]; done) | decide +kernel)
theorem cGtc (l : Launch) (Z : State) (a0 : Array Value) (hw : ∀ d ∈ tables_1, d.before a0 Z = true) (n0 : Nat) (hEW : EW Z a0 consts_1) (b : Addr) (c : Int32) (cs : List Int32) (h0 : Heap) (σ : Addr → Prop) (A : Road.Ary Z h0 b .byte ((c :: cs).map Road.byt)) (hc : 0 ≤ c.toInt ∧ c.toInt < 256) :
    Road.Con l Z consts_1 n0 false bGtc [] σ #[(.ref b), (.int (0 : Int32))] h0 (fun v h2 _ => v = some (.int c) ∧ h0 = h2) := by
  refine Road.Con.of bGtc_pn hEW #[.val (.ref b), .val (.int (0 : Int32))] (fun m => Road.ent (Road.laid1 rfl (Road.laid1 rfl Road.laid0)) (k := 0) rfl rfl) ?_
  intro D hD
  refine Road.aloadN 0 bGtc_d0 rfl ?_
  refine Road.iloadN 1 bGtc_d1 rfl ?_
  refine Road.baload 2 0 bGtc_d2 A rfl rfl ?_
  refine Road.sipush 3 (255 : Int32) bGtc_d3 rfl ?_
  refine Road.iand 6 bGtc_d6 ?_
  refine Road.i2c 7 bGtc_d7 ?_
  exact Road.iret 8 c bGtc_d8 (t := .char) rfl (by simp) (Road.byte_back hc) (by decide) (by decide) (fun σ' m => ⟨rfl, rfl⟩)
def bInw : Road.Bdy := (⟨"java/lang/StringLatin1", "indexOfNonWhitespace", "([B)I"⟩, jdk_43_method_37_code, 4, (some .int), { frames := 2, cells := 0, slots := 0, locals := 29 })
theorem bInw_d0 : decode bInw.bs 0 = .ok (.aload_n 0, 1) := by decide +kernel
theorem bInw_d1 : decode bInw.bs 1 = .ok (.arraylength, 1) := by decide +kernel
theorem bInw_d2 : decode bInw.bs 2 = .ok (.istore_n 1, 1) := by decide +kernel
theorem bInw_d3 : decode bInw.bs 3 = .ok (.iconst 0, 1) := by decide +kernel
theorem bInw_d4 : decode bInw.bs 4 = .ok (.istore_n 2, 1) := by decide +kernel
theorem bInw_d5 : decode bInw.bs 5 = .ok (.iload_n 2, 1) := by decide +kernel
theorem bInw_d6 : decode bInw.bs 6 = .ok (.iload_n 1, 1) := by decide +kernel
theorem bInw_d7 : decode bInw.bs 7 = .ok (.if_icmp .ge 40, 3) := by decide +kernel
theorem bInw_d10 : decode bInw.bs 10 = .ok (.aload_n 0, 1) := by decide +kernel
theorem bInw_d11 : decode bInw.bs 11 = .ok (.iload_n 2, 1) := by decide +kernel
theorem bInw_d12 : decode bInw.bs 12 = .ok (.invokestatic 50, 3) := by decide +kernel
theorem bInw_d15 : decode bInw.bs 15 = .ok (.istore_n 3, 1) := by decide +kernel
theorem bInw_d16 : decode bInw.bs 16 = .ok (.iload_n 3, 1) := by decide +kernel
theorem bInw_d17 : decode bInw.bs 17 = .ok (.bipush 32, 2) := by decide +kernel
theorem bInw_d19 : decode bInw.bs 19 = .ok (.if_icmp .eq 22, 3) := by decide +kernel
theorem bInw_d22 : decode bInw.bs 22 = .ok (.iload_n 3, 1) := by decide +kernel
theorem bInw_d23 : decode bInw.bs 23 = .ok (.bipush 9, 2) := by decide +kernel
theorem bInw_d25 : decode bInw.bs 25 = .ok (.if_icmp .eq 16, 3) := by decide +kernel
theorem bInw_d28 : decode bInw.bs 28 = .ok (.getstatic 66, 3) := by decide +kernel
theorem bInw_d31 : decode bInw.bs 31 = .ok (.iload_n 3, 1) := by decide +kernel
theorem bInw_d32 : decode bInw.bs 32 = .ok (.invokevirtual 211, 3) := by decide +kernel
theorem bInw_d35 : decode bInw.bs 35 = .ok (.ifCond .ne 6, 3) := by decide +kernel
theorem bInw_d38 : decode bInw.bs 38 = .ok (.goto 9, 3) := by decide +kernel
theorem bInw_d41 : decode bInw.bs 41 = .ok (.iinc 2 1, 3) := by decide +kernel
theorem bInw_d44 : decode bInw.bs 44 = .ok (.goto (-39), 3) := by decide +kernel
theorem bInw_d47 : decode bInw.bs 47 = .ok (.iload_n 2, 1) := by decide +kernel
theorem bInw_d48 : decode bInw.bs 48 = .ok (.ireturn, 1) := by decide +kernel
theorem bInw_pd : parseMethodDescriptor "([B)I" = some ⟨[(.array .byte)], (some .int)⟩ := by decide +kernel
theorem bInw_pn : plainFor bInw.y = true := plainFor_of_name (show plainName "java/lang/StringLatin1" = true from by first | (simp [plainName, overriddenIn]; done) | decide +kernel)
theorem cInw (l : Launch) (Z : State) (a0 : Array Value) (hw : ∀ d ∈ tables_1, d.before a0 Z = true) (n0 : Nat) (hEW : EW Z a0 consts_1) (b : Addr) (c : Int32) (cs : List Int32) (i : Nat) (h0 : Heap) (σ : Addr → Prop) (A : Road.Ary Z h0 b .byte ((c :: cs).map Road.byt)) (hc : c = Nat.toInt32 i) (h33 : 33 ≤ i) (hi : i < AL.length) (ci oA : Addr) (Ei : Exa Z Z.heap ci "java/lang/CharacterDataLatin1") (Hi : Sta Z Z.heap "java/lang/CharacterDataLatin1" "instance" "Ljava/lang/CharacterDataLatin1;" (.ref ci)) (HA : Sta Z Z.heap "java/lang/CharacterDataLatin1" "A" "[I" (.ref oA)) (AA : Road.Ary Z Z.heap oA .int (AL.map .int)) :
    Road.Con l Z consts_1 n0 false bInw [] σ #[(.ref b)] h0 (fun v h2 _ => v = some (.int 0) ∧ h0 = h2) := by
  have hi' : i < 256 := hi
  have hl : 0 ≤ c.toInt ∧ c.toInt < 256 := by rw [hc, Road.n32 (by omega)]; omega
  have hsm := A.small
  rw [List.length_map] at hsm
  refine Road.Con.of bInw_pn hEW #[.val (.ref b), .unset, .unset, .unset] (fun m => Road.ent (Road.laid1 rfl Road.laid0) (k := 3) rfl rfl) ?_
  intro D hD
  refine Road.Go.old ?_
  intro hO
  have Eo : Exa Z h0 ci "java/lang/CharacterDataLatin1" := Ei.ext hO.2
  refine Road.aloadN 0 bInw_d0 rfl ?_
  refine Road.alen 1 (Nat.toInt32 (c :: cs).length) bInw_d1 A (n := (c :: cs).length) (List.length_map _) rfl ?_
  refine Road.istoreN 2 #[.val (.ref b), .val (.int (Nat.toInt32 (c :: cs).length)), .unset, .unset] bInw_d2 rfl ?_
  refine Road.iconst 3 (0 : Int32) bInw_d3 rfl ?_
  refine Road.istoreN 4 #[.val (.ref b), .val (.int (Nat.toInt32 (c :: cs).length)), .val (.int (0 : Int32)), .unset] bInw_d4 rfl ?_
  refine Road.iloadN 5 bInw_d5 rfl ?_
  refine Road.iloadN 6 bInw_d6 rfl ?_
  refine Road.icmp_ge 7 47 bInw_d7 rfl (fun q => absurd q (by rw [Decidable.not_not, show (0 : Int32) = Nat.toInt32 0 from rfl, Road.lt32 (by omega) hsm]; simp)) (fun hc7 => ?_)
  refine Road.aloadN 10 bInw_d10 rfl ?_
  refine Road.iloadN 11 bInw_d11 rfl ?_
  refine Road.callS (B' := bGtc) 12 (argsL := [(.ref b), (.int (0 : Int32))]) (rest := []) 0 bInw_d12 (wI hw 73 rfl) (wI hw 74 rfl) (wI hw 71 rfl) (wI hw 75 rfl) (by decide) (cGtc l Z a0 hw n0 hEW b c cs h0 σ A hl) (lenOf bGtc_pd rfl) rfl rfl rfl (by decide) (by decide) (ce' := 0) (sl' := 0) rfl rfl (by decide) (by decide) ?_
  rintro _ h_1 σ_2 m_3 ⟨rfl, rfl⟩
  refine Road.Go.weaken (σ' := σ) m_3 (Nat.le_refl _) (Nat.le_refl _) ?_
  refine Road.istoreN 15 #[.val (.ref b), .val (.int (Nat.toInt32 (c :: cs).length)), .val (.int (0 : Int32)), .val (.int c)] bInw_d15 rfl ?_
  refine Road.iloadN 16 bInw_d16 rfl ?_
  refine Road.bipush 17 (32 : Int32) bInw_d17 rfl ?_
  refine Road.icmp_eq 19 41 bInw_d19 rfl (fun q => absurd q (by rw [hc, show (32 : Int32) = Nat.toInt32 32 from rfl, Road.eq32 (by omega) (by omega)]; omega)) (fun hc19 => ?_)
  refine Road.iloadN 22 bInw_d22 rfl ?_
  refine Road.bipush 23 (9 : Int32) bInw_d23 rfl ?_
  refine Road.icmp_eq 25 41 bInw_d25 rfl (fun q => absurd q (by rw [hc, show (9 : Int32) = Nat.toInt32 9 from rfl, Road.eq32 (by omega) (by omega)]; omega)) (fun hc25 => ?_)
  refine Road.getstatic 28 bInw_d28 (wI hw 76 rfl) Via.refl Hi ?_
  refine Road.iloadN 31 bInw_d31 rfl ?_
  refine Road.nameI ?_
  intro z_5 hz_5
  obtain rfl : z_5 = (Nat.toInt32 i) := by rw [hz_5]; exact hc
  refine Road.callV (B' := bIsw) (a := ci) 32 (argsL := [(.int (Nat.toInt32 i))]) (rest := []) "java/lang/CharacterDataLatin1" 0 bInw_d32 (wI hw 78 rfl) (wI hw 79 rfl) (fun vm hz => Road.notFace_sib (args := #[]) (mv (s := D.s.setVm vm) hz (wI hw 81 rfl)) rfl) (wI hw 81 rfl) (wI hw 80 rfl) (wI hw 77 rfl) (wI hw 82 rfl) (by decide) Eo (cIsw l Z a0 hw n0 hEW i h0 σ hi h33 ci oA Ei Hi HA AA) (lenOf bIsw_pd rfl) rfl rfl rfl (by decide) (by decide) (ce' := 0) (sl' := 0) rfl rfl (by decide) (by decide) ?_
  rintro _ h_6 σ_7 m_8 ⟨rfl, rfl⟩
  refine Road.Go.weaken (σ' := σ) m_8 (Nat.le_refl _) (Nat.le_refl _) ?_
  refine Road.if_ne 35 41 bInw_d35 rfl (fun q => absurd q (by decide)) (fun hc35 => ?_)
  refine Road.goto 38 47 bInw_d38 rfl ?_
  refine Road.iloadN 47 bInw_d47 rfl ?_
  exact Road.iretI 48 bInw_d48 rfl (by decide) (by decide) (fun σ' m => ⟨rfl, rfl⟩)
def bIn2 : Road.Bdy := (⟨"java/lang/String", "indexOfNonWhitespace", "()I"⟩, jdk_42_method_120_code, 1, (some .int), { frames := 3, cells := 0, slots := 0, locals := 44 })
theorem bIn2_d0 : decode bIn2.bs 0 = .ok (.aload_n 0, 1) := by decide +kernel
theorem bIn2_d1 : decode bIn2.bs 1 = .ok (.invokevirtual 492, 3) := by decide +kernel
theorem bIn2_d4 : decode bIn2.bs 4 = .ok (.ifCond .eq 13, 3) := by decide +kernel
theorem bIn2_d7 : decode bIn2.bs 7 = .ok (.aload_n 0, 1) := by decide +kernel
theorem bIn2_d8 : decode bIn2.bs 8 = .ok (.getfield 9, 3) := by decide +kernel
theorem bIn2_d11 : decode bIn2.bs 11 = .ok (.invokestatic 924, 3) := by decide +kernel
theorem bIn2_d14 : decode bIn2.bs 14 = .ok (.goto 10, 3) := by decide +kernel
theorem bIn2_d17 : decode bIn2.bs 17 = .ok (.aload_n 0, 1) := by decide +kernel
theorem bIn2_d18 : decode bIn2.bs 18 = .ok (.getfield 9, 3) := by decide +kernel
theorem bIn2_d21 : decode bIn2.bs 21 = .ok (.invokestatic 926, 3) := by decide +kernel
theorem bIn2_d24 : decode bIn2.bs 24 = .ok (.ireturn, 1) := by decide +kernel
theorem bIn2_pd : parseMethodDescriptor "()I" = some ⟨[], (some .int)⟩ := by decide +kernel
theorem bIn2_pn : plainFor bIn2.y = true := plainFor_of_name (show plainName "java/lang/String" = true from by first | (simp [plainName, overriddenIn]; done) | decide +kernel)
theorem cIn2 (l : Launch) (Z : State) (a0 : Array Value) (hw : ∀ d ∈ tables_1, d.before a0 Z = true) (n0 : Nat) (hEW : EW Z a0 consts_1) (s sb : Addr) (c : Int32) (cs : List Int32) (i : Nat) (h0 : Heap) (σ : Addr → Prop) (T : Road.Str Z h0 s sb (c :: cs)) (hc : c = Nat.toInt32 i) (h33 : 33 ≤ i) (hi : i < AL.length) (cp : Int32) (Hc : Sta Z Z.heap Road.SN "COMPACT_STRINGS" "Z" (.int cp)) (hcp : ¬ cp = 0) (ci oA : Addr) (Ei : Exa Z Z.heap ci "java/lang/CharacterDataLatin1") (Hi : Sta Z Z.heap "java/lang/CharacterDataLatin1" "instance" "Ljava/lang/CharacterDataLatin1;" (.ref ci)) (HA : Sta Z Z.heap "java/lang/CharacterDataLatin1" "A" "[I" (.ref oA)) (AA : Road.Ary Z Z.heap oA .int (AL.map .int)) :
    Road.Con l Z consts_1 n0 false bIn2 [] σ #[(.ref s)] h0 (fun v h2 _ => v = some (.int 0) ∧ h0 = h2) := by
  refine Road.Con.of bIn2_pn hEW #[.val (.ref s)] (fun m => Road.ent (Road.laid1 rfl Road.laid0) (k := 0) rfl rfl) ?_
  intro D hD
  refine Road.aloadN 0 bIn2_d0 rfl ?_
  refine Road.callV (B' := bIsL) (a := s) 1 (argsL := []) (rest := []) "java/lang/String" 0 bIn2_d1 (wI hw 64 rfl) (wI hw 65 rfl) (fun vm hz => Road.notFace_sib (args := #[]) (mv (s := D.s.setVm vm) hz (wI hw 57 rfl)) rfl) (wI hw 67 rfl) (wI hw 66 rfl) (wI hw 5 rfl) (wI hw 68 rfl) (by decide) T.1 (cIsL l Z a0 hw n0 hEW s h0 σ T.2.1 cp Hc hcp) (lenOf bIsL_pd rfl) rfl rfl rfl (by decide) (by decide) (ce' := 0) (sl' := 0) rfl rfl (by decide) (by decide) ?_
  rintro _ h_1 σ_2 m_3 ⟨rfl, rfl⟩
  refine Road.Go.weaken (σ' := σ) m_3 (Nat.le_refl _) (Nat.le_refl _) ?_
  refine Road.if_eq 4 17 bIn2_d4 rfl (fun q => absurd q (by decide)) (fun hc4 => ?_)
  refine Road.aloadN 7 bIn2_d7 rfl ?_
  refine Road.getfield 8 bIn2_d8 (wI hw 30 rfl) Via.refl T.2.2.1 ?_
  refine Road.callS (B' := bInw) 11 (argsL := [(.ref sb)]) (rest := []) 0 bIn2_d11 (wI hw 69 rfl) (wI hw 70 rfl) (wI hw 71 rfl) (wI hw 72 rfl) (by decide) (cInw l Z a0 hw n0 hEW sb c cs i h0 σ T.2.2.2.1 hc h33 hi ci oA Ei Hi HA AA) (lenOf bInw_pd rfl) rfl rfl rfl (by decide) (by decide) (ce' := 0) (sl' := 0) rfl rfl (by decide) (by decide) ?_
  rintro _ h_5 σ_6 m_7 ⟨rfl, rfl⟩
  refine Road.Go.weaken (σ' := σ) m_7 (Nat.le_refl _) (Nat.le_refl _) ?_
  refine Road.goto 14 24 bIn2_d14 rfl ?_
  exact Road.iretI 24 bIn2_d24 rfl (by decide) (by decide) (fun σ' m => ⟨rfl, rfl⟩)
def bIbl : Road.Bdy := (⟨"java/lang/String", "isBlank", "()Z"⟩, jdk_42_method_117_code, 1, (some .boolean), { frames := 4, cells := 0, slots := 0, locals := 56 })
theorem bIbl_d0 : decode bIbl.bs 0 = .ok (.aload_n 0, 1) := by decide +kernel
theorem bIbl_d1 : decode bIbl.bs 1 = .ok (.invokevirtual 876, 3) := by decide +kernel
theorem bIbl_d4 : decode bIbl.bs 4 = .ok (.aload_n 0, 1) := by decide +kernel
theorem bIbl_d5 : decode bIbl.bs 5 = .ok (.invokevirtual 505, 3) := by decide +kernel
theorem bIbl_d8 : decode bIbl.bs 8 = .ok (.if_icmp .ne 7, 3) := by decide +kernel
theorem bIbl_d11 : decode bIbl.bs 11 = .ok (.iconst 1, 1) := by decide +kernel
theorem bIbl_d12 : decode bIbl.bs 12 = .ok (.goto 4, 3) := by decide +kernel
theorem bIbl_d15 : decode bIbl.bs 15 = .ok (.iconst 0, 1) := by decide +kernel
theorem bIbl_d16 : decode bIbl.bs 16 = .ok (.ireturn, 1) := by decide +kernel
theorem bIbl_pd : parseMethodDescriptor "()Z" = some ⟨[], (some .boolean)⟩ := by decide +kernel
theorem bIbl_pn : plainFor bIbl.y = true := plainFor_of_name (show plainName "java/lang/String" = true from by first | (simp [plainName, overriddenIn]; done) | decide +kernel)
theorem cIbl (l : Launch) (Z : State) (a0 : Array Value) (hw : ∀ d ∈ tables_1, d.before a0 Z = true) (n0 : Nat) (hEW : EW Z a0 consts_1) (s sb : Addr) (c : Int32) (cs : List Int32) (i : Nat) (h0 : Heap) (σ : Addr → Prop) (T : Road.Str Z h0 s sb (c :: cs)) (hc : c = Nat.toInt32 i) (h33 : 33 ≤ i) (hi : i < AL.length) (cp : Int32) (Hc : Sta Z Z.heap Road.SN "COMPACT_STRINGS" "Z" (.int cp)) (hcp : ¬ cp = 0) (ci oA : Addr) (Ei : Exa Z Z.heap ci "java/lang/CharacterDataLatin1") (Hi : Sta Z Z.heap "java/lang/CharacterDataLatin1" "instance" "Ljava/lang/CharacterDataLatin1;" (.ref ci)) (HA : Sta Z Z.heap "java/lang/CharacterDataLatin1" "A" "[I" (.ref oA)) (AA : Road.Ary Z Z.heap oA .int (AL.map .int)) :
    Road.Con l Z consts_1 n0 false bIbl [] σ #[(.ref s)] h0 (fun v h2 _ => v = some (.int 0) ∧ h0 = h2) := by
  have hsm := T.2.2.2.1.small
  rw [List.length_map] at hsm
  refine Road.Con.of bIbl_pn hEW #[.val (.ref s)] (fun m => Road.ent (Road.laid1 rfl Road.laid0) (k := 0) rfl rfl) ?_
  intro D hD
  refine Road.aloadN 0 bIbl_d0 rfl ?_
  refine Road.callP (B' := bIn2) (a := s) 1 (argsL := []) (rest := []) "java/lang/String" 0 bIbl_d1 (wI hw 59 rfl) (wI hw 61 rfl) (wI hw 62 rfl) (wI hw 60 rfl) (wI hw 5 rfl) (wI hw 63 rfl) (by decide) T.1 (cIn2 l Z a0 hw n0 hEW s sb c cs i h0 σ T hc h33 hi cp Hc hcp ci oA Ei Hi HA AA) (lenOf bIn2_pd rfl) rfl rfl rfl (by decide) (by decide) (ce' := 0) (sl' := 0) rfl rfl (by decide) (by decide) ?_
  rintro _ h_1 σ_2 m_3 ⟨rfl, rfl⟩
  refine Road.Go.weaken (σ' := σ) m_3 (Nat.le_refl _) (Nat.le_refl _) ?_
  refine Road.aloadN 4 bIbl_d4 rfl ?_
  refine Road.callV (B' := bLen) (a := s) 5 (argsL := []) (rest := [(.int (0 : Int32))]) "java/lang/String" 1 bIbl_d5 (wI hw 89 rfl) (wI hw 90 rfl) (fun vm hz => Road.notFace_sib (args := #[]) (mv (s := D.s.setVm vm) hz (wI hw 57 rfl)) rfl) (wI hw 92 rfl) (wI hw 91 rfl) (wI hw 5 rfl) (wI hw 93 rfl) (by decide) T.1 (cLen l Z a0 hw n0 hEW s sb (c :: cs) h0 σ T cp Hc hcp) (lenOf bLen_pd rfl) rfl rfl rfl (by decide) (by decide) (ce' := 0) (sl' := 0) rfl rfl (by decide) (by decide) ?_
  rintro _ h_5 σ_6 m_7 ⟨rfl, rfl⟩
  refine Road.Go.weaken (σ' := σ) m_7 (Nat.le_refl _) (Nat.le_refl _) ?_
  refine Road.icmp_ne 8 15 bIbl_d8 rfl (fun hc8 => ?_) (fun q => absurd q (by rw [show (0 : Int32) = Nat.toInt32 0 from rfl, Road.eq32 (by omega) hsm]; simp))
  refine Road.iconst 15 (0 : Int32) bIbl_d15 rfl ?_
  exact Road.iret 16 0 bIbl_d16 (t := .boolean) rfl (by simp) rfl (by decide) (by decide) (fun σ' m => ⟨rfl, rfl⟩)
def bRnn : Road.Bdy := (⟨"java/util/Objects", "requireNonNull", "(Ljava/lang/Object;Ljava/lang/String;)Ljava/lang/Object;"⟩, jdk_31_method_11_code, 2, (some (.object "java/lang/Object")), { frames := 0, cells := 0, slots := 0, locals := 0 })
theorem bRnn_d0 : decode bRnn.bs 0 = .ok (.aload_n 0, 1) := by decide +kernel
theorem bRnn_d1 : decode bRnn.bs 1 = .ok (.ifnonnull 12, 3) := by decide +kernel
theorem bRnn_d4 : decode bRnn.bs 4 = .ok (.new 84, 3) := by decide +kernel
theorem bRnn_d7 : decode bRnn.bs 7 = .ok (.dup, 1) := by decide +kernel
theorem bRnn_d8 : decode bRnn.bs 8 = .ok (.aload_n 1, 1) := by decide +kernel
theorem bRnn_d9 : decode bRnn.bs 9 = .ok (.invokespecial 87, 3) := by decide +kernel
theorem bRnn_d12 : decode bRnn.bs 12 = .ok (.athrow, 1) := by decide +kernel
theorem bRnn_d13 : decode bRnn.bs 13 = .ok (.aload_n 0, 1) := by decide +kernel
theorem bRnn_d14 : decode bRnn.bs 14 = .ok (.areturn, 1) := by decide +kernel
theorem bRnn_pd : parseMethodDescriptor "(Ljava/lang/Object;Ljava/lang/String;)Ljava/lang/Object;" = some ⟨[(.object "java/lang/Object"), (.object "java/lang/String")], (some (.object "java/lang/Object"))⟩ := by decide +kernel
theorem bRnn_pn : plainFor bRnn.y = true := plainFor_of_name (show plainName "java/util/Objects" = true from by first | (simp [plainName, overriddenIn]; done) | decide +kernel)
theorem cRnn (l : Launch) (Z : State) (a0 : Array Value) (hw : ∀ d ∈ tables_1, d.before a0 Z = true) (n0 : Nat) (hEW : EW Z a0 consts_1) (a b : Addr) (h0 : Heap) (σ : Addr → Prop)  :
    Road.Con l Z consts_1 n0 false bRnn [] σ #[(.ref a), (.ref b)] h0 (fun v h2 _ => v = some (.ref a) ∧ h0 = h2) := by
  refine Road.Con.of bRnn_pn hEW #[.val (.ref a), .val (.ref b)] (fun m => Road.ent (Road.laid1 rfl (Road.laid1 rfl Road.laid0)) (k := 0) rfl rfl) ?_
  intro D hD
  refine Road.aloadN 0 bRnn_d0 rfl ?_
  refine Road.ifnonnull 1 13 rfl bRnn_d1 rfl (fun hc1 => ?_) (fun q => absurd q (by simp))
  refine Road.aloadN 13 bRnn_d13 rfl ?_
  exact Road.aret 14 bRnn_d14 (t := (.object "java/lang/Object")) rfl rfl rfl (by decide) (by decide) (fun σ' m => ⟨rfl, rfl⟩)
def bFti : Road.Bdy := (⟨"jdk/internal/util/Preconditions", "checkFromToIndex", "(IIILjava/util/function/BiFunction;)I"⟩, jdk_41_method_12_code, 4, (some .int), { frames := 0, cells := 0, slots := 0, locals := 0 })
theorem bFti_d0 : decode bFti.bs 0 = .ok (.iload_n 0, 1) := by decide +kernel
theorem bFti_d1 : decode bFti.bs 1 = .ok (.ifCond .lt 13, 3) := by decide +kernel
theorem bFti_d4 : decode bFti.bs 4 = .ok (.iload_n 0, 1) := by decide +kernel
theorem bFti_d5 : decode bFti.bs 5 = .ok (.iload_n 1, 1) := by decide +kernel
theorem bFti_d6 : decode bFti.bs 6 = .ok (.if_icmp .gt 8, 3) := by decide +kernel
theorem bFti_d9 : decode bFti.bs 9 = .ok (.iload_n 1, 1) := by decide +kernel
theorem bFti_d10 : decode bFti.bs 10 = .ok (.iload_n 2, 1) := by decide +kernel
theorem bFti_d11 : decode bFti.bs 11 = .ok (.if_icmp .le 11, 3) := by decide +kernel
theorem bFti_d14 : decode bFti.bs 14 = .ok (.aload_n 3, 1) := by decide +kernel
theorem bFti_d15 : decode bFti.bs 15 = .ok (.iload_n 0, 1) := by decide +kernel
theorem bFti_d16 : decode bFti.bs 16 = .ok (.iload_n 1, 1) := by decide +kernel
theorem bFti_d17 : decode bFti.bs 17 = .ok (.iload_n 2, 1) := by decide +kernel
theorem bFti_d18 : decode bFti.bs 18 = .ok (.invokestatic 99, 3) := by decide +kernel
theorem bFti_d21 : decode bFti.bs 21 = .ok (.athrow, 1) := by decide +kernel
theorem bFti_d22 : decode bFti.bs 22 = .ok (.iload_n 0, 1) := by decide +kernel
theorem bFti_d23 : decode bFti.bs 23 = .ok (.ireturn, 1) := by decide +kernel
theorem bFti_pd : parseMethodDescriptor "(IIILjava/util/function/BiFunction;)I" = some ⟨[.int, .int, .int, (.object "java/util/function/BiFunction")], (some .int)⟩ := by decide +kernel
theorem bFti_pn : plainFor bFti.y = true := plainFor_of_name (show plainName "jdk/internal/util/Preconditions" = true from by first | (simp [plainName, overriddenIn]; done) | decide +kernel)
theorem cFti (l : Launch) (Z : State) (a0 : Array Value) (hw : ∀ d ∈ tables_1, d.before a0 Z = true) (n0 : Nat) (hEW : EW Z a0 consts_1)  (h0 : Heap) (σ : Addr → Prop)  :
    Road.Con l Z consts_1 n0 false bFti [] σ #[(.int (0 : Int32)), (.int (12 : Int32)), (.int (12 : Int32)), .null] h0 (fun v h2 _ => v = some (.int 0) ∧ h0 = h2) := by
  refine Road.Con.of bFti_pn hEW #[.val (.int (0 : Int32)), .val (.int (12 : Int32)), .val (.int (12 : Int32)), .val .null] (fun m => Road.ent (Road.laid1 rfl (Road.laid1 rfl (Road.laid1 rfl (Road.laid1 rfl Road.laid0)))) (k := 0) rfl rfl) ?_
  intro D hD
  refine Road.iloadN 0 bFti_d0 rfl ?_
  refine Road.if_lt 1 14 bFti_d1 rfl (fun q => absurd q (by decide)) (fun hc1 => ?_)
  refine Road.iloadN 4 bFti_d4 rfl ?_
  refine Road.iloadN 5 bFti_d5 rfl ?_
  refine Road.icmp_gt 6 14 bFti_d6 rfl (fun q => absurd q (by decide)) (fun hc6 => ?_)
  refine Road.iloadN 9 bFti_d9 rfl ?_
  refine Road.iloadN 10 bFti_d10 rfl ?_
  refine Road.icmp_le 11 22 bFti_d11 rfl (fun hc11 => ?_) (fun q => absurd q (by decide))
  refine Road.iloadN 22 bFti_d22 rfl ?_
  exact Road.iretI 23 bFti_d23 rfl (by decide) (by decide) (fun σ' m => ⟨rfl, rfl⟩)
def bFt2 : Road.Bdy := (⟨"java/util/Objects", "checkFromToIndex", "(III)I"⟩, jdk_31_method_18_code, 3, (some .int), { frames := 1, cells := 0, slots := 0, locals := 15 })
theorem bFt2_d0 : decode bFt2.bs 0 = .ok (.iload_n 0, 1) := by decide +kernel
theorem bFt2_d1 : decode bFt2.bs 1 = .ok (.iload_n 1, 1) := by decide +kernel
theorem bFt2_d2 : decode bFt2.bs 2 = .ok (.iload_n 2, 1) := by decide +kernel
theorem bFt2_d3 : decode bFt2.bs 3 = .ok (.aconst_null, 1) := by decide +kernel
theorem bFt2_d4 : decode bFt2.bs 4 = .ok (.invokestatic 111, 3) := by decide +kernel
theorem bFt2_d7 : decode bFt2.bs 7 = .ok (.ireturn, 1) := by decide +kernel
theorem bFt2_pd : parseMethodDescriptor "(III)I" = some ⟨[.int, .int, .int], (some .int)⟩ := by decide +kernel
theorem bFt2_pn : plainFor bFt2.y = true := plainFor_of_name (show plainName "java/util/Objects" = true from by first | (simp [plainName, overriddenIn]; done) | decide +kernel)
theorem cFt2 (l : Launch) (Z : State) (a0 : Array Value) (hw : ∀ d ∈ tables_1, d.before a0 Z = true) (n0 : Nat) (hEW : EW Z a0 consts_1)  (h0 : Heap) (σ : Addr → Prop)  :
    Road.Con l Z consts_1 n0 false bFt2 [] σ #[(.int (0 : Int32)), (.int (12 : Int32)), (.int (12 : Int32))] h0 (fun v h2 _ => v = some (.int 0) ∧ h0 = h2) := by
  refine Road.Con.of bFt2_pn hEW #[.val (.int (0 : Int32)), .val (.int (12 : Int32)), .val (.int (12 : Int32))] (fun m => Road.ent (Road.laid1 rfl (Road.laid1 rfl (Road.laid1 rfl Road.laid0))) (k := 0) rfl rfl) ?_
  intro D hD
  refine Road.iloadN 0 bFt2_d0 rfl ?_
  refine Road.iloadN 1 bFt2_d1 rfl ?_
  refine Road.iloadN 2 bFt2_d2 rfl ?_
  refine Road.aconstNull 3 bFt2_d3 ?_
  refine Road.callS (B' := bFti) 4 (argsL := [(.int (0 : Int32)), (.int (12 : Int32)), (.int (12 : Int32)), .null]) (rest := []) 0 bFt2_d4 (wI hw 117 rfl) (wI hw 118 rfl) (wI hw 119 rfl) (wI hw 120 rfl) (by decide) (cFti l Z a0 hw n0 hEW h0 σ) (lenOf bFti_pd rfl) rfl rfl rfl (by decide) (by decide) (ce' := 0) (sl' := 0) rfl rfl (by decide) (by decide) ?_
  rintro _ h_1 σ_2 m_3 ⟨rfl, rfl⟩
  refine Road.Go.weaken (σ' := σ) m_3 (Nat.le_refl _) (Nat.le_refl _) ?_
  exact Road.iretI 7 bFt2_d7 rfl (by decide) (by decide) (fun σ' m => ⟨rfl, rfl⟩)
def bCpc : Road.Bdy := (⟨"java/lang/String", "codePointCount", "(II)I"⟩, jdk_42_method_59_code, 3, (some .int), { frames := 2, cells := 0, slots := 0, locals := 29 })
theorem bCpc_d0 : decode bCpc.bs 0 = .ok (.iload_n 1, 1) := by decide +kernel
theorem bCpc_d1 : decode bCpc.bs 1 = .ok (.iload_n 2, 1) := by decide +kernel
theorem bCpc_d2 : decode bCpc.bs 2 = .ok (.aload_n 0, 1) := by decide +kernel
theorem bCpc_d3 : decode bCpc.bs 3 = .ok (.invokevirtual 505, 3) := by decide +kernel
theorem bCpc_d6 : decode bCpc.bs 6 = .ok (.invokestatic 511, 3) := by decide +kernel
theorem bCpc_d9 : decode bCpc.bs 9 = .ok (.pop, 1) := by decide +kernel
theorem bCpc_d10 : decode bCpc.bs 10 = .ok (.aload_n 0, 1) := by decide +kernel
theorem bCpc_d11 : decode bCpc.bs 11 = .ok (.invokevirtual 492, 3) := by decide +kernel
theorem bCpc_d14 : decode bCpc.bs 14 = .ok (.ifCond .eq 7, 3) := by decide +kernel
theorem bCpc_d17 : decode bCpc.bs 17 = .ok (.iload_n 2, 1) := by decide +kernel
theorem bCpc_d18 : decode bCpc.bs 18 = .ok (.iload_n 1, 1) := by decide +kernel
theorem bCpc_d19 : decode bCpc.bs 19 = .ok (.isub, 1) := by decide +kernel
theorem bCpc_d20 : decode bCpc.bs 20 = .ok (.ireturn, 1) := by decide +kernel
theorem bCpc_d21 : decode bCpc.bs 21 = .ok (.aload_n 0, 1) := by decide +kernel
theorem bCpc_d22 : decode bCpc.bs 22 = .ok (.getfield 9, 3) := by decide +kernel
theorem bCpc_d25 : decode bCpc.bs 25 = .ok (.iload_n 1, 1) := by decide +kernel
theorem bCpc_d26 : decode bCpc.bs 26 = .ok (.iload_n 2, 1) := by decide +kernel
theorem bCpc_d27 : decode bCpc.bs 27 = .ok (.invokestatic 514, 3) := by decide +kernel
theorem bCpc_d30 : decode bCpc.bs 30 = .ok (.ireturn, 1) := by decide +kernel
theorem bCpc_pd : parseMethodDescriptor "(II)I" = some ⟨[.int, .int], (some .int)⟩ := by decide +kernel
theorem bCpc_pn : plainFor bCpc.y = true := plainFor_of_name (show plainName "java/lang/String" = true from by first | (simp [plainName, overriddenIn]; done) | decide +kernel)
theorem cCpc (l : Launch) (Z : State) (a0 : Array Value) (hw : ∀ d ∈ tables_1, d.before a0 Z = true) (n0 : Nat) (hEW : EW Z a0 consts_1) (s sb : Addr) (cs : List Int32) (h0 : Heap) (σ : Addr → Prop) (T : Road.Str Z h0 s sb cs) (h12 : cs.length = 12) (cp : Int32) (Hc : Sta Z Z.heap Road.SN "COMPACT_STRINGS" "Z" (.int cp)) (hcp : ¬ cp = 0) :
    Road.Con l Z consts_1 n0 false bCpc [] σ #[(.ref s), (.int (0 : Int32)), (.int (12 : Int32))] h0 (fun v h2 _ => v = some (.int 12) ∧ h0 = h2) := by
  refine Road.Con.of bCpc_pn hEW #[.val (.ref s), .val (.int (0 : Int32)), .val (.int (12 : Int32))] (fun m => Road.ent (Road.laid1 rfl (Road.laid1 rfl (Road.laid1 rfl Road.laid0))) (k := 0) rfl rfl) ?_
  intro D hD
  refine Road.iloadN 0 bCpc_d0 rfl ?_
  refine Road.iloadN 1 bCpc_d1 rfl ?_
  refine Road.aloadN 2 bCpc_d2 rfl ?_
  refine Road.callV (B' := bLen) (a := s) 3 (argsL := []) (rest := [(.int (12 : Int32)), (.int (0 : Int32))]) "java/lang/String" 2 bCpc_d3 (wI hw 89 rfl) (wI hw 90 rfl) (fun vm hz => Road.notFace_sib (args := #[]) (mv (s := D.s.setVm vm) hz (wI hw 57 rfl)) rfl) (wI hw 92 rfl) (wI hw 91 rfl) (wI hw 5 rfl) (wI hw 93 rfl) (by decide) T.1 (cLen l Z a0 hw n0 hEW s sb cs h0 σ T cp Hc hcp) (lenOf bLen_pd rfl) rfl rfl rfl (by decide) (by decide) (ce' := 0) (sl' := 0) rfl rfl (by decide) (by decide) ?_
  rintro _ h_1 σ_2 m_3 ⟨rfl, rfl⟩
  refine Road.Go.weaken (σ' := σ) m_3 (Nat.le_refl _) (Nat.le_refl _) ?_
  refine Road.nameI ?_
  intro z_5 hz_5
  obtain rfl : z_5 = (12 : Int32) := by rw [hz_5]; rw [h12]; rfl
  refine Road.callS (B' := bFt2) 6 (argsL := [(.int (0 : Int32)), (.int (12 : Int32)), (.int (12 : Int32))]) (rest := []) 0 bCpc_d6 (wI hw 114 rfl) (wI hw 115 rfl) (wI hw 50 rfl) (wI hw 116 rfl) (by decide) (cFt2 l Z a0 hw n0 hEW h0 σ) (lenOf bFt2_pd rfl) rfl rfl rfl (by decide) (by decide) (ce' := 0) (sl' := 0) rfl rfl (by decide) (by decide) ?_
  rintro _ h_6 σ_7 m_8 ⟨rfl, rfl⟩
  refine Road.Go.weaken (σ' := σ) m_8 (Nat.le_refl _) (Nat.le_refl _) ?_
  refine Road.pop 9 bCpc_d9 ?_
  refine Road.aloadN 10 bCpc_d10 rfl ?_
  refine Road.callV (B' := bIsL) (a := s) 11 (argsL := []) (rest := []) "java/lang/String" 0 bCpc_d11 (wI hw 64 rfl) (wI hw 65 rfl) (fun vm hz => Road.notFace_sib (args := #[]) (mv (s := D.s.setVm vm) hz (wI hw 57 rfl)) rfl) (wI hw 67 rfl) (wI hw 66 rfl) (wI hw 5 rfl) (wI hw 68 rfl) (by decide) T.1 (cIsL l Z a0 hw n0 hEW s h0 σ T.2.1 cp Hc hcp) (lenOf bIsL_pd rfl) rfl rfl rfl (by decide) (by decide) (ce' := 0) (sl' := 0) rfl rfl (by decide) (by decide) ?_
  rintro _ h_10 σ_11 m_12 ⟨rfl, rfl⟩
  refine Road.Go.weaken (σ' := σ) m_12 (Nat.le_refl _) (Nat.le_refl _) ?_
  refine Road.if_eq 14 21 bCpc_d14 rfl (fun q => absurd q (by decide)) (fun hc14 => ?_)
  refine Road.iloadN 17 bCpc_d17 rfl ?_
  refine Road.iloadN 18 bCpc_d18 rfl ?_
  refine Road.isub 19 bCpc_d19 ?_
  exact Road.iretI 20 bCpc_d20 rfl (by decide) (by decide) (fun σ' m => ⟨rfl, rfl⟩)
def bLgE : Road.Bdy := (⟨"com/example/orderly_tasks/orderlytasks/ConsoleSettings", "longEnough", "(Ljava/lang/String;)Z"⟩, prog_1_method_2_code, 1, (some .boolean), { frames := 3, cells := 0, slots := 0, locals := 43 })
theorem bLgE_d0 : decode bLgE.bs 0 = .ok (.aload_n 0, 1) := by decide +kernel
theorem bLgE_d1 : decode bLgE.bs 1 = .ok (.iconst 0, 1) := by decide +kernel
theorem bLgE_d2 : decode bLgE.bs 2 = .ok (.aload_n 0, 1) := by decide +kernel
theorem bLgE_d3 : decode bLgE.bs 3 = .ok (.invokevirtual 75, 3) := by decide +kernel
theorem bLgE_d6 : decode bLgE.bs 6 = .ok (.invokevirtual 79, 3) := by decide +kernel
theorem bLgE_d9 : decode bLgE.bs 9 = .ok (.bipush 12, 2) := by decide +kernel
theorem bLgE_d11 : decode bLgE.bs 11 = .ok (.if_icmp .lt 7, 3) := by decide +kernel
theorem bLgE_d14 : decode bLgE.bs 14 = .ok (.iconst 1, 1) := by decide +kernel
theorem bLgE_d15 : decode bLgE.bs 15 = .ok (.goto 4, 3) := by decide +kernel
theorem bLgE_d18 : decode bLgE.bs 18 = .ok (.iconst 0, 1) := by decide +kernel
theorem bLgE_d19 : decode bLgE.bs 19 = .ok (.ireturn, 1) := by decide +kernel
theorem bLgE_pd : parseMethodDescriptor "(Ljava/lang/String;)Z" = some ⟨[(.object "java/lang/String")], (some .boolean)⟩ := by decide +kernel
theorem bLgE_pn : plainFor bLgE.y = true := plainFor_of_name (show plainName "com/example/orderly_tasks/orderlytasks/ConsoleSettings" = true from by first | (simp [plainName, overriddenIn]; done) | decide +kernel)
theorem cLgE (l : Launch) (Z : State) (a0 : Array Value) (hw : ∀ d ∈ tables_1, d.before a0 Z = true) (n0 : Nat) (hEW : EW Z a0 consts_1) (s sb : Addr) (cs : List Int32) (h0 : Heap) (σ : Addr → Prop) (T : Road.Str Z h0 s sb cs) (h12 : cs.length = 12) (cp : Int32) (Hc : Sta Z Z.heap Road.SN "COMPACT_STRINGS" "Z" (.int cp)) (hcp : ¬ cp = 0) :
    Road.Con l Z consts_1 n0 false bLgE [] σ #[(.ref s)] h0 (fun v h2 _ => v = some (.int 1) ∧ h0 = h2) := by
  refine Road.Con.of bLgE_pn hEW #[.val (.ref s)] (fun m => Road.ent (Road.laid1 rfl Road.laid0) (k := 0) rfl rfl) ?_
  intro D hD
  refine Road.aloadN 0 bLgE_d0 rfl ?_
  refine Road.iconst 1 (0 : Int32) bLgE_d1 rfl ?_
  refine Road.aloadN 2 bLgE_d2 rfl ?_
  refine Road.callV (B' := bLen) (a := s) 3 (argsL := []) (rest := [(.int (0 : Int32)), (.ref s)]) "java/lang/String" 2 bLgE_d3 (wI hw 108 rfl) (wI hw 90 rfl) (fun vm hz => Road.notFace_sib (args := #[]) (mv (s := D.s.setVm vm) hz (wI hw 57 rfl)) rfl) (wI hw 92 rfl) (wI hw 91 rfl) (wI hw 5 rfl) (wI hw 93 rfl) (by decide) T.1 (cLen l Z a0 hw n0 hEW s sb cs h0 σ T cp Hc hcp) (lenOf bLen_pd rfl) rfl rfl rfl (by decide) (by decide) (ce' := 0) (sl' := 0) rfl rfl (by decide) (by decide) ?_
  rintro _ h_1 σ_2 m_3 ⟨rfl, rfl⟩
  refine Road.Go.weaken (σ' := σ) m_3 (Nat.le_refl _) (Nat.le_refl _) ?_
  refine Road.nameI ?_
  intro z_5 hz_5
  obtain rfl : z_5 = (12 : Int32) := by rw [hz_5]; rw [h12]; rfl
  refine Road.callV (B' := bCpc) (a := s) 6 (argsL := [(.int (0 : Int32)), (.int (12 : Int32))]) (rest := []) "java/lang/String" 0 bLgE_d6 (wI hw 109 rfl) (wI hw 110 rfl) (fun vm hz => Road.notFace_sib (args := #[]) (mv (s := D.s.setVm vm) hz (wI hw 57 rfl)) rfl) (wI hw 112 rfl) (wI hw 111 rfl) (wI hw 5 rfl) (wI hw 113 rfl) (by decide) T.1 (cCpc l Z a0 hw n0 hEW s sb cs h0 σ T h12 cp Hc hcp) (lenOf bCpc_pd rfl) rfl rfl rfl (by decide) (by decide) (ce' := 0) (sl' := 0) rfl rfl (by decide) (by decide) ?_
  rintro _ h_6 σ_7 m_8 ⟨rfl, rfl⟩
  refine Road.Go.weaken (σ' := σ) m_8 (Nat.le_refl _) (Nat.le_refl _) ?_
  refine Road.bipush 9 (12 : Int32) bLgE_d9 rfl ?_
  refine Road.icmp_lt 11 18 bLgE_d11 rfl (fun q => absurd q (by decide)) (fun hc11 => ?_)
  refine Road.iconst 14 (1 : Int32) bLgE_d14 rfl ?_
  refine Road.goto 15 19 bLgE_d15 rfl ?_
  exact Road.iret 19 1 bLgE_d19 (t := .boolean) rfl (by simp) rfl (by decide) (by decide) (fun σ' m => ⟨rfl, rfl⟩)
def bCsI : Road.Bdy := (⟨"com/example/orderly_tasks/orderlytasks/ConsoleSettings", "<init>", "(Ljava/lang/String;ILjava/lang/String;Ljava/lang/String;)V"⟩, prog_1_method_1_code, 5, none, { frames := 5, cells := 6, slots := 76, locals := 68 })
theorem bCsI_d0 : decode bCsI.bs 0 = .ok (.aload_n 0, 1) := by decide +kernel
theorem bCsI_d1 : decode bCsI.bs 1 = .ok (.invokespecial 1, 3) := by decide +kernel
theorem bCsI_d4 : decode bCsI.bs 4 = .ok (.aload_n 1, 1) := by decide +kernel
theorem bCsI_d5 : decode bCsI.bs 5 = .ok (.ldc 7, 2) := by decide +kernel
theorem bCsI_d7 : decode bCsI.bs 7 = .ok (.invokestatic 9, 3) := by decide +kernel
theorem bCsI_d10 : decode bCsI.bs 10 = .ok (.pop, 1) := by decide +kernel
theorem bCsI_d11 : decode bCsI.bs 11 = .ok (.aload_n 3, 1) := by decide +kernel
theorem bCsI_d12 : decode bCsI.bs 12 = .ok (.ldc 15, 2) := by decide +kernel
theorem bCsI_d14 : decode bCsI.bs 14 = .ok (.invokestatic 9, 3) := by decide +kernel
theorem bCsI_d17 : decode bCsI.bs 17 = .ok (.pop, 1) := by decide +kernel
theorem bCsI_d18 : decode bCsI.bs 18 = .ok (.aload 4, 2) := by decide +kernel
theorem bCsI_d20 : decode bCsI.bs 20 = .ok (.ldc 17, 2) := by decide +kernel
theorem bCsI_d22 : decode bCsI.bs 22 = .ok (.invokestatic 9, 3) := by decide +kernel
theorem bCsI_d25 : decode bCsI.bs 25 = .ok (.pop, 1) := by decide +kernel
theorem bCsI_d26 : decode bCsI.bs 26 = .ok (.aload_n 1, 1) := by decide +kernel
theorem bCsI_d27 : decode bCsI.bs 27 = .ok (.invokevirtual 19, 3) := by decide +kernel
theorem bCsI_d30 : decode bCsI.bs 30 = .ok (.ifCond .eq 13, 3) := by decide +kernel
theorem bCsI_d33 : decode bCsI.bs 33 = .ok (.new 25, 3) := by decide +kernel
theorem bCsI_d36 : decode bCsI.bs 36 = .ok (.dup, 1) := by decide +kernel
theorem bCsI_d37 : decode bCsI.bs 37 = .ok (.ldc 27, 2) := by decide +kernel
theorem bCsI_d39 : decode bCsI.bs 39 = .ok (.invokespecial 29, 3) := by decide +kernel
theorem bCsI_d42 : decode bCsI.bs 42 = .ok (.athrow, 1) := by decide +kernel
theorem bCsI_d43 : decode bCsI.bs 43 = .ok (.iload_n 2, 1) := by decide +kernel
theorem bCsI_d44 : decode bCsI.bs 44 = .ok (.ifCond .lt 9, 3) := by decide +kernel
theorem bCsI_d47 : decode bCsI.bs 47 = .ok (.iload_n 2, 1) := by decide +kernel
theorem bCsI_d48 : decode bCsI.bs 48 = .ok (.ldc 32, 2) := by decide +kernel
theorem bCsI_d50 : decode bCsI.bs 50 = .ok (.if_icmp .le 35, 3) := by decide +kernel
theorem bCsI_d53 : decode bCsI.bs 53 = .ok (.new 25, 3) := by decide +kernel
theorem bCsI_d56 : decode bCsI.bs 56 = .ok (.dup, 1) := by decide +kernel
theorem bCsI_d57 : decode bCsI.bs 57 = .ok (.new 33, 3) := by decide +kernel
theorem bCsI_d60 : decode bCsI.bs 60 = .ok (.dup, 1) := by decide +kernel
theorem bCsI_d61 : decode bCsI.bs 61 = .ok (.invokespecial 35, 3) := by decide +kernel
theorem bCsI_d64 : decode bCsI.bs 64 = .ok (.ldc 36, 2) := by decide +kernel
theorem bCsI_d66 : decode bCsI.bs 66 = .ok (.invokevirtual 38, 3) := by decide +kernel
theorem bCsI_d69 : decode bCsI.bs 69 = .ok (.iload_n 2, 1) := by decide +kernel
theorem bCsI_d70 : decode bCsI.bs 70 = .ok (.invokevirtual 42, 3) := by decide +kernel
theorem bCsI_d73 : decode bCsI.bs 73 = .ok (.ldc 45, 2) := by decide +kernel
theorem bCsI_d75 : decode bCsI.bs 75 = .ok (.invokevirtual 38, 3) := by decide +kernel
theorem bCsI_d78 : decode bCsI.bs 78 = .ok (.invokevirtual 47, 3) := by decide +kernel
theorem bCsI_d81 : decode bCsI.bs 81 = .ok (.invokespecial 29, 3) := by decide +kernel
theorem bCsI_d84 : decode bCsI.bs 84 = .ok (.athrow, 1) := by decide +kernel
theorem bCsI_d85 : decode bCsI.bs 85 = .ok (.aload_n 3, 1) := by decide +kernel
theorem bCsI_d86 : decode bCsI.bs 86 = .ok (.invokevirtual 51, 3) := by decide +kernel
theorem bCsI_d89 : decode bCsI.bs 89 = .ok (.ifCond .eq 13, 3) := by decide +kernel
theorem bCsI_d92 : decode bCsI.bs 92 = .ok (.new 25, 3) := by decide +kernel
theorem bCsI_d95 : decode bCsI.bs 95 = .ok (.dup, 1) := by decide +kernel
theorem bCsI_d96 : decode bCsI.bs 96 = .ok (.ldc 54, 2) := by decide +kernel
theorem bCsI_d98 : decode bCsI.bs 98 = .ok (.invokespecial 29, 3) := by decide +kernel
theorem bCsI_d101 : decode bCsI.bs 101 = .ok (.athrow, 1) := by decide +kernel
theorem bCsI_d102 : decode bCsI.bs 102 = .ok (.aload 4, 2) := by decide +kernel
theorem bCsI_d104 : decode bCsI.bs 104 = .ok (.invokestatic 56, 3) := by decide +kernel
theorem bCsI_d107 : decode bCsI.bs 107 = .ok (.ifCond .ne 13, 3) := by decide +kernel
theorem bCsI_d110 : decode bCsI.bs 110 = .ok (.new 25, 3) := by decide +kernel
theorem bCsI_d113 : decode bCsI.bs 113 = .ok (.dup, 1) := by decide +kernel
theorem bCsI_d114 : decode bCsI.bs 114 = .ok (.ldc 62, 2) := by decide +kernel
theorem bCsI_d116 : decode bCsI.bs 116 = .ok (.invokespecial 29, 3) := by decide +kernel
theorem bCsI_d119 : decode bCsI.bs 119 = .ok (.athrow, 1) := by decide +kernel
theorem bCsI_d120 : decode bCsI.bs 120 = .ok (.aload_n 0, 1) := by decide +kernel
theorem bCsI_d121 : decode bCsI.bs 121 = .ok (.aload_n 1, 1) := by decide +kernel
theorem bCsI_d122 : decode bCsI.bs 122 = .ok (.putfield 64, 3) := by decide +kernel
theorem bCsI_d125 : decode bCsI.bs 125 = .ok (.aload_n 0, 1) := by decide +kernel
theorem bCsI_d126 : decode bCsI.bs 126 = .ok (.iload_n 2, 1) := by decide +kernel
theorem bCsI_d127 : decode bCsI.bs 127 = .ok (.putfield 67, 3) := by decide +kernel
theorem bCsI_d130 : decode bCsI.bs 130 = .ok (.aload_n 0, 1) := by decide +kernel
theorem bCsI_d131 : decode bCsI.bs 131 = .ok (.aload_n 3, 1) := by decide +kernel
theorem bCsI_d132 : decode bCsI.bs 132 = .ok (.putfield 71, 3) := by decide +kernel
theorem bCsI_d135 : decode bCsI.bs 135 = .ok (.aload_n 0, 1) := by decide +kernel
theorem bCsI_d136 : decode bCsI.bs 136 = .ok (.aload 4, 2) := by decide +kernel
theorem bCsI_d138 : decode bCsI.bs 138 = .ok (.putfield 73, 3) := by decide +kernel
theorem bCsI_d141 : decode bCsI.bs 141 = .ok (.return_, 1) := by decide +kernel
theorem bCsI_pd : parseMethodDescriptor "(Ljava/lang/String;ILjava/lang/String;Ljava/lang/String;)V" = some ⟨[(.object "java/lang/String"), .int, (.object "java/lang/String"), (.object "java/lang/String")], none⟩ := by decide +kernel
theorem bCsI_pn : plainFor bCsI.y = true := plainFor_of_name (show plainName "com/example/orderly_tasks/orderlytasks/ConsoleSettings" = true from by first | (simp [plainName, overriddenIn]; done) | decide +kernel)
theorem cCsI (l : Launch) (Z : State) (a0 : Array Value) (hw : ∀ d ∈ tables_1, d.before a0 Z = true) (n0 : Nat) (hEW : EW Z a0 consts_1) (o s sb u ub p pb : Addr) (c x : Int32) (cs us ps : List Int32) (i : Nat) (h0 : Heap) (σ : Addr → Prop) (E : Exa Z h0 o "com/example/orderly_tasks/orderlytasks/ConsoleSettings") (F1 : Fld Z h0 o "com/example/orderly_tasks/orderlytasks/ConsoleSettings" "bind" "Ljava/lang/String;" .null) (F2 : Fld Z h0 o "com/example/orderly_tasks/orderlytasks/ConsoleSettings" "port" "I" (.int 0)) (F3 : Fld Z h0 o "com/example/orderly_tasks/orderlytasks/ConsoleSettings" "user" "Ljava/lang/String;" .null) (F4 : Fld Z h0 o "com/example/orderly_tasks/orderlytasks/ConsoleSettings" "password" "Ljava/lang/String;" .null) (so : σ o) (T : Road.Str Z h0 s sb (c :: cs)) (hc : c = Nat.toInt32 i) (h33 : 33 ≤ i) (hi : i < AL.length) (cp : Int32) (Hc : Sta Z Z.heap Road.SN "COMPACT_STRINGS" "Z" (.int cp)) (hcp : ¬ cp = 0) (ci oA : Addr) (Ei : Exa Z Z.heap ci "java/lang/CharacterDataLatin1") (Hi : Sta Z Z.heap "java/lang/CharacterDataLatin1" "instance" "Ljava/lang/CharacterDataLatin1;" (.ref ci)) (HA : Sta Z Z.heap "java/lang/CharacterDataLatin1" "A" "[I" (.ref oA)) (AA : Road.Ary Z Z.heap oA .int (AL.map .int)) (U : Road.Str Z h0 u ub us) (hus : us ≠ []) (Pw : Road.Str Z h0 p pb ps) (h12 : ps.length = 12) (nso : s ≠ o) (nbo : sb ≠ o) (nuo : u ≠ o) (nvo : ub ≠ o) (npo : p ≠ o) (nqo : pb ≠ o) (hx : ¬ x < 0) (hx2 : ¬ (65535 : Int32) < x) :
    Road.Con l Z consts_1 n0 false bCsI [] σ #[(.ref o), (.ref s), (.int x), (.ref u), (.ref p)] h0 (fun v h2 s2 => v = none ∧ Keep h0 h2 [o] ∧ Fld Z h2 o "com/example/orderly_tasks/orderlytasks/ConsoleSettings" "bind" "Ljava/lang/String;" (.ref s) ∧ Fld Z h2 o "com/example/orderly_tasks/orderlytasks/ConsoleSettings" "port" "I" (.int x) ∧ Fld Z h2 o "com/example/orderly_tasks/orderlytasks/ConsoleSettings" "user" "Ljava/lang/String;" (.ref u)) := by
  have wS : ∀ d ∈ Bundle.stringAtoms, d.before a0 Z = true := fun d hd => hw d ((by decide +kernel : ∀ d ∈ Bundle.stringAtoms, d ∈ tables_1) d hd)
  refine Road.Con.of bCsI_pn hEW #[.val (.ref o), .val (.ref s), .val (.int x), .val (.ref u), .val (.ref p)] (fun m => Road.ent (Road.laid1 rfl (Road.laid1 rfl (Road.laid1 rfl (Road.laid1 rfl (Road.laid1 rfl Road.laid0))))) (k := 0) rfl rfl) ?_
  intro D hD
  have KT := Keep.refl h0 ([] : List Addr)
  refine Road.aloadN 0 bCsI_d0 rfl ?_
  refine Road.callI (B' := bRec) (a := o) 1 (argsL := []) (rest := []) 0 bCsI_d1 (wI hw 41 rfl) (wI hw 42 rfl) (wI hw 44 rfl) (wI hw 45 rfl) rfl rfl (by decide) (cRec l Z a0 hw n0 hEW o h0 σ) (lenOf bRec_pd rfl) rfl rfl rfl (by decide) (by decide) (ce' := 0) (sl' := 0) rfl rfl (by decide) (by decide) ?_
  rintro _ h_1 σ_2 m_3 ⟨rfl, rfl⟩
  refine Road.Go.weaken (σ' := σ) m_3 (Nat.le_refl _) (Nat.le_refl _) ?_
  refine Road.aloadN 4 bCsI_d4 rfl ?_
  refine Road.ldcS 5 "bind" [(98 : Int32), (105 : Int32), (110 : Int32), (100 : Int32)] 16 bCsI_d5 (wI hw 47 rfl) wS (List.mem_of_getElem? (i := 0) rfl) (by decide) (by decide +kernel) (by decide) (by decide) (by decide) (ce' := 2) (sl' := 20) rfl rfl (by decide) (by decide) ?_
  intro k1 kb1 h_5 σ_6 K_7 m_8 L1 q_9 mk_10
  replace so := m_8 _ so E.lt
  replace E := E.keep K_7
  replace F1 := F1.keep K_7 nin0
  replace F2 := F2.keep K_7 nin0
  replace F3 := F3.keep K_7 nin0
  replace F4 := F4.keep K_7 nin0
  replace T := T.keep K_7 nin0 nin0
  replace U := U.keep K_7 nin0 nin0
  replace Pw := Pw.keep K_7 nin0 nin0
  replace KT := KT.trans K_7 (by simp)
  have ne_o_k1 : o ≠ k1 := (q_9 o so).1
  have ne_o_kb1 : o ≠ kb1 := (q_9 o so).2
  refine Road.callS (B' := bRnn) 7 (argsL := [(.ref s), (.ref k1)]) (rest := []) 0 bCsI_d7 (wI hw 48 rfl) (wI hw 49 rfl) (wI hw 50 rfl) (wI hw 51 rfl) (by decide) (cRnn l Z a0 hw n0 hEW s k1 h_5 σ_6) (lenOf bRnn_pd rfl) rfl rfl rfl (by decide) (by decide) (ce' := 2) (sl' := 20) rfl rfl (by decide) (by decide) ?_
  rintro _ h_11 σ_12 m_13 ⟨rfl, rfl⟩
  refine Road.Go.weaken (σ' := σ_6) m_13 (Nat.le_refl _) (Nat.le_refl _) ?_
  refine Road.pop 10 bCsI_d10 ?_
  refine Road.aloadN 11 bCsI_d11 rfl ?_
  refine Road.ldcS 12 "user" [(117 : Int32), (115 : Int32), (101 : Int32), (114 : Int32)] 16 bCsI_d12 (wI hw 52 rfl) wS (List.mem_of_getElem? (i := 1) rfl) (by decide) (by decide +kernel) (by decide) (by decide) (by decide) (ce' := 4) (sl' := 40) rfl rfl (by decide) (by decide) ?_
  intro k2 kb2 h_15 σ_16 K_17 m_18 L2 q_19 mk_20
  replace so := m_18 _ so E.lt
  replace E := E.keep K_17
  replace F1 := F1.keep K_17 nin0
  replace F2 := F2.keep K_17 nin0
  replace F3 := F3.keep K_17 nin0
  replace F4 := F4.keep K_17 nin0
  replace T := T.keep K_17 nin0 nin0
  replace U := U.keep K_17 nin0 nin0
  replace Pw := Pw.keep K_17 nin0 nin0
  replace KT := KT.trans K_17 (by simp)
  have ne_o_k2 : o ≠ k2 := (q_19 o so).1
  have ne_o_kb2 : o ≠ kb2 := (q_19 o so).2
  refine Road.callS (B' := bRnn) 14 (argsL := [(.ref u), (.ref k2)]) (rest := []) 0 bCsI_d14 (wI hw 48 rfl) (wI hw 49 rfl) (wI hw 50 rfl) (wI hw 51 rfl) (by decide) (cRnn l Z a0 hw n0 hEW u k2 h_15 σ_16) (lenOf bRnn_pd rfl) rfl rfl rfl (by decide) (by decide) (ce' := 4) (sl' := 40) rfl rfl (by decide) (by decide) ?_
  rintro _ h_21 σ_22 m_23 ⟨rfl, rfl⟩
  refine Road.Go.weaken (σ' := σ_16) m_23 (Nat.le_refl _) (Nat.le_refl _) ?_
  refine Road.pop 17 bCsI_d17 ?_
  refine Road.aload 18 bCsI_d18 rfl ?_
  refine Road.ldcS 20 "password" [(112 : Int32), (97 : Int32), (115 : Int32), (115 : Int32), (119 : Int32), (111 : Int32), (114 : Int32), (100 : Int32)] 32 bCsI_d20 (wI hw 53 rfl) wS (List.mem_of_getElem? (i := 2) rfl) (by decide) (by decide +kernel) (by decide) (by decide) (by decide) (ce' := 6) (sl' := 76) rfl rfl (by decide) (by decide) ?_
  intro k3 kb3 h_25 σ_26 K_27 m_28 L3 q_29 mk_30
  replace so := m_28 _ so E.lt
  replace E := E.keep K_27
  replace F1 := F1.keep K_27 nin0
  replace F2 := F2.keep K_27 nin0
  replace F3 := F3.keep K_27 nin0
  replace F4 := F4.keep K_27 nin0
  replace T := T.keep K_27 nin0 nin0
  replace U := U.keep K_27 nin0 nin0
  replace Pw := Pw.keep K_27 nin0 nin0
  replace KT := KT.trans K_27 (by simp)
  have ne_o_k3 : o ≠ k3 := (q_29 o so).1
  have ne_o_kb3 : o ≠ kb3 := (q_29 o so).2
  refine Road.callS (B' := bRnn) 22 (argsL := [(.ref p), (.ref k3)]) (rest := []) 0 bCsI_d22 (wI hw 48 rfl) (wI hw 49 rfl) (wI hw 50 rfl) (wI hw 51 rfl) (by decide) (cRnn l Z a0 hw n0 hEW p k3 h_25 σ_26) (lenOf bRnn_pd rfl) rfl rfl rfl (by decide) (by decide) (ce' := 6) (sl' := 76) rfl rfl (by decide) (by decide) ?_
  rintro _ h_31 σ_32 m_33 ⟨rfl, rfl⟩
  refine Road.Go.weaken (σ' := σ_26) m_33 (Nat.le_refl _) (Nat.le_refl _) ?_
  refine Road.pop 25 bCsI_d25 ?_
  refine Road.aloadN 26 bCsI_d26 rfl ?_
  refine Road.callV (B' := bIbl) (a := s) 27 (argsL := []) (rest := []) "java/lang/String" 0 bCsI_d27 (wI hw 54 rfl) (wI hw 55 rfl) (fun vm hz => Road.notFace_sib (args := #[]) (mv (s := D.s.setVm vm) hz (wI hw 57 rfl)) rfl) (wI hw 57 rfl) (wI hw 56 rfl) (wI hw 5 rfl) (wI hw 58 rfl) (by decide) T.1 (cIbl l Z a0 hw n0 hEW s sb c cs i h_25 σ_26 T hc h33 hi cp Hc hcp ci oA Ei Hi HA AA) (lenOf bIbl_pd rfl) rfl rfl rfl (by decide) (by decide) (ce' := 6) (sl' := 76) rfl rfl (by decide) (by decide) ?_
  rintro _ h_35 σ_36 m_37 ⟨rfl, rfl⟩
  refine Road.Go.weaken (σ' := σ_26) m_37 (Nat.le_refl _) (Nat.le_refl _) ?_
  refine Road.if_eq 30 43 bCsI_d30 rfl (fun hc30 => ?_) (fun q => absurd q (by decide))
  refine Road.iloadN 43 bCsI_d43 rfl ?_
  refine Road.if_lt 44 53 bCsI_d44 rfl (fun q => absurd q hx) (fun hc44 => ?_)
  refine Road.iloadN 47 bCsI_d47 rfl ?_
  refine Road.ldcI 48 (v := (65535 : Int32)) bCsI_d48 (wI hw 99 rfl) ?_
  refine Road.icmp_le 50 85 bCsI_d50 rfl (fun hc50 => ?_) (fun q => absurd q hx2)
  refine Road.aloadN 85 bCsI_d85 rfl ?_
  refine Road.callV (B' := bEmp) (a := u) 86 (argsL := []) (rest := []) "java/lang/String" 0 bCsI_d86 (wI hw 100 rfl) (wI hw 101 rfl) (fun vm hz => Road.notFace_sib (args := #[]) (mv (s := D.s.setVm vm) hz (wI hw 57 rfl)) rfl) (wI hw 103 rfl) (wI hw 102 rfl) (wI hw 5 rfl) (wI hw 104 rfl) (by decide) U.1 (cEmp l Z a0 hw n0 hEW u ub us h_25 σ_26 U) (lenOf bEmp_pd rfl) rfl rfl rfl (by decide) (by decide) (ce' := 6) (sl' := 76) rfl rfl (by decide) (by decide) ?_
  rintro _ h_39 σ_40 m_41 ⟨rfl, rfl⟩
  refine Road.Go.weaken (σ' := σ_26) m_41 (Nat.le_refl _) (Nat.le_refl _) ?_
  refine Road.nameI ?_
  intro z_43 hz_43
  obtain rfl : z_43 = (0 : Int32) := by rw [hz_43]; rw [if_neg hus]
  refine Road.if_eq 89 102 bCsI_d89 rfl (fun hc89 => ?_) (fun q => absurd q (by decide))
  refine Road.aload 102 bCsI_d102 rfl ?_
  refine Road.callS (B' := bLgE) 104 (argsL := [(.ref p)]) (rest := []) 0 bCsI_d104 (wI hw 105 rfl) (wI hw 106 rfl) (wI hw 34 rfl) (wI hw 107 rfl) (by decide) (cLgE l Z a0 hw n0 hEW p pb ps h_25 σ_26 Pw h12 cp Hc hcp) (lenOf bLgE_pd rfl) rfl rfl rfl (by decide) (by decide) (ce' := 6) (sl' := 76) rfl rfl (by decide) (by decide) ?_
  rintro _ h_44 σ_45 m_46 ⟨rfl, rfl⟩
  refine Road.Go.weaken (σ' := σ_26) m_46 (Nat.le_refl _) (Nat.le_refl _) ?_
  refine Road.if_ne 107 120 bCsI_d107 rfl (fun hc107 => ?_) (fun q => absurd q (by decide))
  refine Road.aloadN 120 bCsI_d120 rfl ?_
  refine Road.aloadN 121 bCsI_d121 rfl ?_
  refine Road.putfield 122 bCsI_d122 (wI hw 121 rfl) Via.refl F1 E (Or.inr ⟨(wI hw 122 rfl), rfl, rfl⟩) (wI hw 33 rfl) (ty := (.object "java/lang/String")) (by decide) rfl rfl so ?_
  intro h_50 W_48 K_49
  replace F1 := F1.same W_48
  replace F2 := F2.other W_48 (Or.inr (slot_ne (Or.inr (wI hw 124 rfl)) (Or.inr (wI hw 122 rfl)) (by decide) (t := .int) (by decide) (t' := (.object "java/lang/String")) (by decide)))
  replace F3 := F3.other W_48 (Or.inr (slot_ne (Or.inr (wI hw 126 rfl)) (Or.inr (wI hw 122 rfl)) (by decide) (t := (.object "java/lang/String")) (by decide) (t' := (.object "java/lang/String")) (by decide)))
  replace F4 := F4.other W_48 (Or.inr (slot_ne (Or.inr (wI hw 128 rfl)) (Or.inr (wI hw 122 rfl)) (by decide) (t := (.object "java/lang/String")) (by decide) (t' := (.object "java/lang/String")) (by decide)))
  replace E := E.keep K_49
  replace T := T.keep K_49 (ninS nso nin0) (ninS nbo nin0)
  replace U := U.keep K_49 (ninS nuo nin0) (ninS nvo nin0)
  replace Pw := Pw.keep K_49 (ninS npo nin0) (ninS nqo nin0)
  refine Road.aloadN 125 bCsI_d125 rfl ?_
  refine Road.iloadN 126 bCsI_d126 rfl ?_
  refine Road.putfield 127 bCsI_d127 (wI hw 123 rfl) Via.refl F2 E (Or.inr ⟨(wI hw 124 rfl), rfl, rfl⟩) (wI hw 33 rfl) (ty := .int) (by decide) rfl rfl so ?_
  intro h_53 W_51 K_52
  replace F2 := F2.same W_51
  replace F1 := F1.other W_51 (Or.inr (slot_ne (Or.inr (wI hw 122 rfl)) (Or.inr (wI hw 124 rfl)) (by decide) (t := (.object "java/lang/String")) (by decide) (t' := .int) (by decide)))
  replace F3 := F3.other W_51 (Or.inr (slot_ne (Or.inr (wI hw 126 rfl)) (Or.inr (wI hw 124 rfl)) (by decide) (t := (.object "java/lang/String")) (by decide) (t' := .int) (by decide)))
  replace F4 := F4.other W_51 (Or.inr (slot_ne (Or.inr (wI hw 128 rfl)) (Or.inr (wI hw 124 rfl)) (by decide) (t := (.object "java/lang/String")) (by decide) (t' := .int) (by decide)))
  replace E := E.keep K_52
  replace T := T.keep K_52 (ninS nso nin0) (ninS nbo nin0)
  replace U := U.keep K_52 (ninS nuo nin0) (ninS nvo nin0)
  replace Pw := Pw.keep K_52 (ninS npo nin0) (ninS nqo nin0)
  refine Road.aloadN 130 bCsI_d130 rfl ?_
  refine Road.aloadN 131 bCsI_d131 rfl ?_
  refine Road.putfield 132 bCsI_d132 (wI hw 125 rfl) Via.refl F3 E (Or.inr ⟨(wI hw 126 rfl), rfl, rfl⟩) (wI hw 33 rfl) (ty := (.object "java/lang/String")) (by decide) rfl rfl so ?_
  intro h_56 W_54 K_55
  replace F3 := F3.same W_54
  replace F1 := F1.other W_54 (Or.inr (slot_ne (Or.inr (wI hw 122 rfl)) (Or.inr (wI hw 126 rfl)) (by decide) (t := (.object "java/lang/String")) (by decide) (t' := (.object "java/lang/String")) (by decide)))
  replace F2 := F2.other W_54 (Or.inr (slot_ne (Or.inr (wI hw 124 rfl)) (Or.inr (wI hw 126 rfl)) (by decide) (t := .int) (by decide) (t' := (.object "java/lang/String")) (by decide)))
  replace F4 := F4.other W_54 (Or.inr (slot_ne (Or.inr (wI hw 128 rfl)) (Or.inr (wI hw 126 rfl)) (by decide) (t := (.object "java/lang/String")) (by decide) (t' := (.object "java/lang/String")) (by decide)))
  replace E := E.keep K_55
  replace T := T.keep K_55 (ninS nso nin0) (ninS nbo nin0)
  replace U := U.keep K_55 (ninS nuo nin0) (ninS nvo nin0)
  replace Pw := Pw.keep K_55 (ninS npo nin0) (ninS nqo nin0)
  refine Road.aloadN 135 bCsI_d135 rfl ?_
  refine Road.aload 136 bCsI_d136 rfl ?_
  refine Road.putfield 138 bCsI_d138 (wI hw 127 rfl) Via.refl F4 E (Or.inr ⟨(wI hw 128 rfl), rfl, rfl⟩) (wI hw 33 rfl) (ty := (.object "java/lang/String")) (by decide) rfl rfl so ?_
  intro h_59 W_57 K_58
  replace F4 := F4.same W_57
  replace F1 := F1.other W_57 (Or.inr (slot_ne (Or.inr (wI hw 122 rfl)) (Or.inr (wI hw 128 rfl)) (by decide) (t := (.object "java/lang/String")) (by decide) (t' := (.object "java/lang/String")) (by decide)))
  replace F2 := F2.other W_57 (Or.inr (slot_ne (Or.inr (wI hw 124 rfl)) (Or.inr (wI hw 128 rfl)) (by decide) (t := .int) (by decide) (t' := (.object "java/lang/String")) (by decide)))
  replace F3 := F3.other W_57 (Or.inr (slot_ne (Or.inr (wI hw 126 rfl)) (Or.inr (wI hw 128 rfl)) (by decide) (t := (.object "java/lang/String")) (by decide) (t' := (.object "java/lang/String")) (by decide)))
  replace E := E.keep K_58
  replace T := T.keep K_58 (ninS nso nin0) (ninS nbo nin0)
  replace U := U.keep K_58 (ninS nuo nin0) (ninS nvo nin0)
  replace Pw := Pw.keep K_58 (ninS npo nin0) (ninS nqo nin0)
  exact Road.ret 141 bCsI_d141 rfl (by decide) (by decide) (fun σ' m => ⟨rfl, (((((Road.keep_more (ws := [o]) KT).trans K_49 (by simp)).trans K_52 (by simp)).trans K_55 (by simp)).trans K_58 (by simp)), F1, F2, F3⟩)
def bAbI : Road.Bdy := (⟨"java/lang/AbstractStringBuilder", "<init>", "(I)V"⟩, jdk_68_method_2_code, 2, none, { frames := 1, cells := 1, slots := 16, locals := 14 })
theorem bAbI_d0 : decode bAbI.bs 0 = .ok (.aload_n 0, 1) := by decide +kernel
theorem bAbI_d1 : decode bAbI.bs 1 = .ok (.invokespecial 3, 3) := by decide +kernel
theorem bAbI_d4 : decode bAbI.bs 4 = .ok (.getstatic 18, 3) := by decide +kernel
theorem bAbI_d7 : decode bAbI.bs 7 = .ok (.ifCond .eq 18, 3) := by decide +kernel
theorem bAbI_d10 : decode bAbI.bs 10 = .ok (.aload_n 0, 1) := by decide +kernel
theorem bAbI_d11 : decode bAbI.bs 11 = .ok (.iload_n 1, 1) := by decide +kernel
theorem bAbI_d12 : decode bAbI.bs 12 = .ok (.newarray .byte, 2) := by decide +kernel
theorem bAbI_d14 : decode bAbI.bs 14 = .ok (.putfield 15, 3) := by decide +kernel
theorem bAbI_d17 : decode bAbI.bs 17 = .ok (.aload_n 0, 1) := by decide +kernel
theorem bAbI_d18 : decode bAbI.bs 18 = .ok (.iconst 0, 1) := by decide +kernel
theorem bAbI_d19 : decode bAbI.bs 19 = .ok (.putfield 22, 3) := by decide +kernel
theorem bAbI_d22 : decode bAbI.bs 22 = .ok (.goto 16, 3) := by decide +kernel
theorem bAbI_d25 : decode bAbI.bs 25 = .ok (.aload_n 0, 1) := by decide +kernel
theorem bAbI_d26 : decode bAbI.bs 26 = .ok (.iload_n 1, 1) := by decide +kernel
theorem bAbI_d27 : decode bAbI.bs 27 = .ok (.invokestatic 26, 3) := by decide +kernel
theorem bAbI_d30 : decode bAbI.bs 30 = .ok (.putfield 15, 3) := by decide +kernel
theorem bAbI_d33 : decode bAbI.bs 33 = .ok (.aload_n 0, 1) := by decide +kernel
theorem bAbI_d34 : decode bAbI.bs 34 = .ok (.iconst 1, 1) := by decide +kernel
theorem bAbI_d35 : decode bAbI.bs 35 = .ok (.putfield 22, 3) := by decide +kernel
theorem bAbI_d38 : decode bAbI.bs 38 = .ok (.return_, 1) := by decide +kernel
theorem bAbI_pd : parseMethodDescriptor "(I)V" = some ⟨[.int], none⟩ := by decide +kernel
theorem bAbI_pn : plainFor bAbI.y = true := plainFor_of_name (show plainName "java/lang/AbstractStringBuilder" = true from by first | (simp [plainName, overriddenIn]; done) | decide +kernel)
theorem cAbI (l : Launch) (Z : State) (a0 : Array Value) (hw : ∀ d ∈ tables_1, d.before a0 Z = true) (n0 : Nat) (hEW : EW Z a0 consts_1) (q : Addr) (h0 : Heap) (σ : Addr → Prop) (E : Exa Z h0 q Road.SB) (Fc : Fld Z h0 q Road.AB "coder" "B" (.int 0)) (Fv : Fld Z h0 q Road.AB "value" "[B" .null) (Fn : Fld Z h0 q Road.AB "count" "I" (.int 0)) (sq : σ q) (cp : Int32) (Hc : Sta Z Z.heap Road.SN "COMPACT_STRINGS" "Z" (.int cp)) (hcp : ¬ cp = 0) :
    Road.Con l Z consts_1 n0 false bAbI [] σ #[(.ref q), (.int (16 : Int32))] h0 (fun v h2 s2 => v = none ∧ Keep h0 h2 [q] ∧ ∃ b, Road.Sb Z h2 q b [] 16 ∧ h0.size ≤ b ∧ s2 b ∧ Exa Z h2 b "[B") := by
  refine Road.Con.of bAbI_pn hEW #[.val (.ref q), .val (.int (16 : Int32))] (fun m => Road.ent (Road.laid1 rfl (Road.laid1 rfl Road.laid0)) (k := 0) rfl rfl) ?_
  intro D hD
  refine Road.aloadN 0 bAbI_d0 rfl ?_
  refine Road.initObj 1 bAbI_d1 (wI hw 146 rfl) (wI hw 14 rfl) (wI hw 15 rfl) 0 rfl rfl (by decide) (by decide) ?_
  refine Road.getstatic 4 bAbI_d4 (wI hw 147 rfl) Via.refl Hc ?_
  refine Road.if_eq 7 25 bAbI_d7 rfl (fun q => absurd q hcp) (fun hc7 => ?_)
  refine Road.aloadN 10 bAbI_d10 rfl ?_
  refine Road.iloadN 11 bAbI_d11 rfl ?_
  refine Road.newarrayE 12 .byte 16 16 "[B" rfl bAbI_d12 rfl (wI hw 21 rfl) (by decide) (by decide) (by decide) (ce' := 1) (sl' := 16) rfl rfl (by decide) (by decide) ?_
  intro b h_1 σ_2 g_3 K_4 lt_5 m_6 s_7 Ab EB
  have ne_q_b : q ≠ b := Nat.ne_of_lt (Nat.lt_of_lt_of_le E.lt (Nat.le_of_eq g_3.symm))
  replace E := E.keep K_4
  replace Fc := Fc.keep K_4 nin0
  replace Fv := Fv.keep K_4 nin0
  replace Fn := Fn.keep K_4 nin0
  replace sq := m_6 _ sq
  refine Road.putfield 14 bAbI_d14 (wI hw 148 rfl) Via.refl Fv E (Or.inl (wI hw 149 rfl)) (wI hw 135 rfl) (ty := (.array .byte)) (by decide) rfl rfl sq ?_
  intro h_10 W_8 K_9
  replace Fv := Fv.same W_8
  replace Fc := Fc.other W_8 (Or.inr (slot_ne (Or.inl (wI hw 151 rfl)) (Or.inl (wI hw 149 rfl)) (by decide) (t := .byte) (by decide) (t' := (.array .byte)) (by decide)))
  replace Fn := Fn.other W_8 (Or.inr (slot_ne (Or.inl (wI hw 165 rfl)) (Or.inl (wI hw 149 rfl)) (by decide) (t := .int) (by decide) (t' := (.array .byte)) (by decide)))
  replace E := E.keep K_9
  replace Ab := Ab.keep K_9 (ninS (Ne.symm ne_q_b) nin0)
  replace EB := EB.keep K_9
  refine Road.aloadN 17 bAbI_d17 rfl ?_
  refine Road.iconst 18 (0 : Int32) bAbI_d18 rfl ?_
  refine Road.putfield 19 bAbI_d19 (wI hw 150 rfl) Via.refl Fc E (Or.inl (wI hw 151 rfl)) (wI hw 135 rfl) (ty := .byte) (by decide) rfl rfl sq ?_
  intro h_13 W_11 K_12
  replace Fc := Fc.same W_11
  replace Fv := Fv.other W_11 (Or.inr (slot_ne (Or.inl (wI hw 149 rfl)) (Or.inl (wI hw 151 rfl)) (by decide) (t := (.array .byte)) (by decide) (t' := .byte) (by decide)))
  replace Fn := Fn.other W_11 (Or.inr (slot_ne (Or.inl (wI hw 165 rfl)) (Or.inl (wI hw 151 rfl)) (by decide) (t := .int) (by decide) (t' := .byte) (by decide)))
  replace E := E.keep K_12
  replace Ab := Ab.keep K_12 (ninS (Ne.symm ne_q_b) nin0)
  replace EB := EB.keep K_12
  refine Road.goto 22 38 bAbI_d22 rfl ?_
  exact Road.ret 38 bAbI_d38 rfl (by decide) (by decide) (fun σ' m => ⟨rfl, ((Road.keep_more K_4).trans K_9 (by simp)).trans K_12 (by simp), b, ⟨E, Fc, Fv, Fn, ⟨_, Ab, rfl⟩, by simp⟩, Nat.le_of_eq g_3.symm, m _ s_7, EB⟩)
def bSbI : Road.Bdy := (⟨"java/lang/StringBuilder", "<init>", "()V"⟩, jdk_67_method_1_code, 1, none, { frames := 2, cells := 1, slots := 16, locals := 27 })
theorem bSbI_d0 : decode bSbI.bs 0 = .ok (.aload_n 0, 1) := by decide +kernel
theorem bSbI_d1 : decode bSbI.bs 1 = .ok (.bipush 16, 2) := by decide +kernel
theorem bSbI_d3 : decode bSbI.bs 3 = .ok (.invokespecial 1, 3) := by decide +kernel
theorem bSbI_d6 : decode bSbI.bs 6 = .ok (.return_, 1) := by decide +kernel
theorem bSbI_pd : parseMethodDescriptor "()V" = some ⟨[], none⟩ := by decide +kernel
theorem bSbI_pn : plainFor bSbI.y = true := plainFor_of_name (show plainName "java/lang/StringBuilder" = true from by first | (simp [plainName, overriddenIn]; done) | decide +kernel)
theorem cSbI (l : Launch) (Z : State) (a0 : Array Value) (hw : ∀ d ∈ tables_1, d.before a0 Z = true) (n0 : Nat) (hEW : EW Z a0 consts_1) (q : Addr) (h0 : Heap) (σ : Addr → Prop) (E : Exa Z h0 q Road.SB) (Fc : Fld Z h0 q Road.AB "coder" "B" (.int 0)) (Fv : Fld Z h0 q Road.AB "value" "[B" .null) (Fn : Fld Z h0 q Road.AB "count" "I" (.int 0)) (sq : σ q) (cp : Int32) (Hc : Sta Z Z.heap Road.SN "COMPACT_STRINGS" "Z" (.int cp)) (hcp : ¬ cp = 0) :
    Road.Con l Z consts_1 n0 false bSbI [] σ #[(.ref q)] h0 (fun v h2 s2 => v = none ∧ Keep h0 h2 [q] ∧ ∃ b, Road.Sb Z h2 q b [] 16 ∧ h0.size ≤ b ∧ s2 b ∧ Exa Z h2 b "[B") := by
  refine Road.Con.of bSbI_pn hEW #[.val (.ref q)] (fun m => Road.ent (Road.laid1 rfl Road.laid0) (k := 0) rfl rfl) ?_
  intro D hD
  refine Road.aloadN 0 bSbI_d0 rfl ?_
  refine Road.bipush 1 (16 : Int32) bSbI_d1 rfl ?_
  refine Road.callI (B' := bAbI) (a := q) 3 (argsL := [(.int (16 : Int32))]) (rest := []) 0 bSbI_d3 (wI hw 140 rfl) (wI hw 141 rfl) (wI hw 144 rfl) (wI hw 145 rfl) rfl rfl (by decide) (cAbI l Z a0 hw n0 hEW q h0 σ E Fc Fv Fn sq cp Hc hcp) (lenOf bAbI_pd rfl) rfl rfl rfl (by decide) (by decide) (ce' := 1) (sl' := 16) rfl rfl (by decide) (by decide) ?_
  rintro _ h_1 σ_2 m_3 ⟨rfl, K_4, b, S, gb, sb, EB⟩
  exact Road.ret 6 bSbI_d6 rfl (by decide) (by decide) (fun σ' m => ⟨rfl, K_4, b, S, gb, m _ sb, EB⟩)
def bEn0 : Road.Bdy := (⟨"java/lang/AbstractStringBuilder", "ensureCapacityInternal", "(I)V"⟩, jdk_68_method_9_code, 3, none, { frames := 0, cells := 0, slots := 0, locals := 0 })
theorem bEn0_d0 : decode bEn0.bs 0 = .ok (.aload_n 0, 1) := by decide +kernel
theorem bEn0_d1 : decode bEn0.bs 1 = .ok (.getfield 15, 3) := by decide +kernel
theorem bEn0_d4 : decode bEn0.bs 4 = .ok (.arraylength, 1) := by decide +kernel
theorem bEn0_d5 : decode bEn0.bs 5 = .ok (.aload_n 0, 1) := by decide +kernel
theorem bEn0_d6 : decode bEn0.bs 6 = .ok (.getfield 22, 3) := by decide +kernel
theorem bEn0_d9 : decode bEn0.bs 9 = .ok (.ishr, 1) := by decide +kernel
theorem bEn0_d10 : decode bEn0.bs 10 = .ok (.istore_n 2, 1) := by decide +kernel
theorem bEn0_d11 : decode bEn0.bs 11 = .ok (.iload_n 1, 1) := by decide +kernel
theorem bEn0_d12 : decode bEn0.bs 12 = .ok (.iload_n 2, 1) := by decide +kernel
theorem bEn0_d13 : decode bEn0.bs 13 = .ok (.isub, 1) := by decide +kernel
theorem bEn0_d14 : decode bEn0.bs 14 = .ok (.ifCond .le 24, 3) := by decide +kernel
theorem bEn0_d17 : decode bEn0.bs 17 = .ok (.aload_n 0, 1) := by decide +kernel
theorem bEn0_d18 : decode bEn0.bs 18 = .ok (.aload_n 0, 1) := by decide +kernel
theorem bEn0_d19 : decode bEn0.bs 19 = .ok (.getfield 15, 3) := by decide +kernel
theorem bEn0_d22 : decode bEn0.bs 22 = .ok (.aload_n 0, 1) := by decide +kernel
theorem bEn0_d23 : decode bEn0.bs 23 = .ok (.iload_n 1, 1) := by decide +kernel
theorem bEn0_d24 : decode bEn0.bs 24 = .ok (.invokevirtual 104, 3) := by decide +kernel
theorem bEn0_d27 : decode bEn0.bs 27 = .ok (.aload_n 0, 1) := by decide +kernel
theorem bEn0_d28 : decode bEn0.bs 28 = .ok (.getfield 22, 3) := by decide +kernel
theorem bEn0_d31 : decode bEn0.bs 31 = .ok (.ishl, 1) := by decide +kernel
theorem bEn0_d32 : decode bEn0.bs 32 = .ok (.invokestatic 108, 3) := by decide +kernel
theorem bEn0_d35 : decode bEn0.bs 35 = .ok (.putfield 15, 3) := by decide +kernel
theorem bEn0_d38 : decode bEn0.bs 38 = .ok (.return_, 1) := by decide +kernel
theorem bEn0_pd : parseMethodDescriptor "(I)V" = some ⟨[.int], none⟩ := by decide +kernel
theorem bEn0_pn : plainFor bEn0.y = true := plainFor_of_name (show plainName "java/lang/AbstractStringBuilder" = true from by first | (simp [plainName, overriddenIn]; done) | decide +kernel)
theorem cEn0 (l : Launch) (Z : State) (a0 : Array Value) (hw : ∀ d ∈ tables_1, d.before a0 Z = true) (n0 : Nat) (hEW : EW Z a0 consts_1) (q b : Addr) (cs : List Int32) (N : Nat) (m : Nat) (h0 : Heap) (σ : Addr → Prop) (S : Road.Sb Z h0 q b cs N) (hm : m ≤ N) :
    Road.Con l Z consts_1 n0 false bEn0 [] σ #[(.ref q), (.int (Nat.toInt32 m))] h0 (fun v h2 _ => v = none ∧ h0 = h2) := by
  have hN := S.small
  have hle := S.le
  obtain ⟨E, Fc, Fv, Fn, ⟨r, Ab, hr⟩, hlt⟩ := S
  refine Road.Con.of bEn0_pn hEW #[.val (.ref q), .val (.int (Nat.toInt32 m)), .unset] (fun m => Road.ent (Road.laid1 rfl (Road.laid1 rfl Road.laid0)) (k := 1) rfl rfl) ?_
  intro D hD
  refine Road.aloadN 0 bEn0_d0 rfl ?_
  refine Road.getfield 1 bEn0_d1 (wI hw 148 rfl) Via.refl Fv ?_
  refine Road.alen 4 (Nat.toInt32 N) bEn0_d4 Ab (n := N) (by rw [List.length_append, List.length_map]; exact hr) rfl ?_
  refine Road.aloadN 5 bEn0_d5 rfl ?_
  refine Road.getfield 6 bEn0_d6 (wI hw 150 rfl) Via.refl Fc ?_
  refine Road.ishr 9 bEn0_d9 ?_
  refine Road.nameI ?_
  intro z_1 hz_1
  obtain rfl : z_1 = (Nat.toInt32 N) := by rw [hz_1]; exact Road.shr0 _
  refine Road.istoreN 10 #[.val (.ref q), .val (.int (Nat.toInt32 m)), .val (.int (Nat.toInt32 N))] bEn0_d10 rfl ?_
  refine Road.iloadN 11 bEn0_d11 rfl ?_
  refine Road.iloadN 12 bEn0_d12 rfl ?_
  refine Road.isub 13 bEn0_d13 ?_
  refine Road.if_le 14 38 bEn0_d14 rfl (fun hc14 => ?_) (fun q => absurd q (by rw [Road.gsub (by omega) hN]; omega))
  exact Road.ret 38 bEn0_d38 rfl (by decide) (by decide) (fun σ' m => ⟨rfl, rfl⟩)
def bInf : Road.Bdy := (⟨"java/lang/AbstractStringBuilder", "inflateIfNeededFor", "(Ljava/lang/String;)V"⟩, jdk_68_method_71_code, 2, none, { frames := 1, cells := 0, slots := 0, locals := 13 })
theorem bInf_d0 : decode bInf.bs 0 = .ok (.getstatic 18, 3) := by decide +kernel
theorem bInf_d3 : decode bInf.bs 3 = .ok (.ifCond .eq 18, 3) := by decide +kernel
theorem bInf_d6 : decode bInf.bs 6 = .ok (.aload_n 0, 1) := by decide +kernel
theorem bInf_d7 : decode bInf.bs 7 = .ok (.getfield 22, 3) := by decide +kernel
theorem bInf_d10 : decode bInf.bs 10 = .ok (.aload_n 1, 1) := by decide +kernel
theorem bInf_d11 : decode bInf.bs 11 = .ok (.invokevirtual 40, 3) := by decide +kernel
theorem bInf_d14 : decode bInf.bs 14 = .ok (.if_icmp .eq 7, 3) := by decide +kernel
theorem bInf_d17 : decode bInf.bs 17 = .ok (.aload_n 0, 1) := by decide +kernel
theorem bInf_d18 : decode bInf.bs 18 = .ok (.invokevirtual 195, 3) := by decide +kernel
theorem bInf_d21 : decode bInf.bs 21 = .ok (.return_, 1) := by decide +kernel
theorem bInf_pd : parseMethodDescriptor "(Ljava/lang/String;)V" = some ⟨[(.object "java/lang/String")], none⟩ := by decide +kernel
theorem bInf_pn : plainFor bInf.y = true := plainFor_of_name (show plainName "java/lang/AbstractStringBuilder" = true from by first | (simp [plainName, overriddenIn]; done) | decide +kernel)
theorem cInf (l : Launch) (Z : State) (a0 : Array Value) (hw : ∀ d ∈ tables_1, d.before a0 Z = true) (n0 : Nat) (hEW : EW Z a0 consts_1) (q s sb : Addr) (ds : List Int32) (h0 : Heap) (σ : Addr → Prop) (Fc : Fld Z h0 q Road.AB "coder" "B" (.int 0)) (T : Road.Str Z h0 s sb ds) (cp : Int32) (Hc : Sta Z Z.heap Road.SN "COMPACT_STRINGS" "Z" (.int cp)) (hcp : ¬ cp = 0) :
    Road.Con l Z consts_1 n0 false bInf [] σ #[(.ref q), (.ref s)] h0 (fun v h2 _ => v = none ∧ h0 = h2) := by
  refine Road.Con.of bInf_pn hEW #[.val (.ref q), .val (.ref s)] (fun m => Road.ent (Road.laid1 rfl (Road.laid1 rfl Road.laid0)) (k := 0) rfl rfl) ?_
  intro D hD
  refine Road.getstatic 0 bInf_d0 (wI hw 147 rfl) Via.refl Hc ?_
  refine Road.if_eq 3 21 bInf_d3 rfl (fun q => absurd q hcp) (fun hc3 => ?_)
  refine Road.aloadN 6 bInf_d6 rfl ?_
  refine Road.getfield 7 bInf_d7 (wI hw 150 rfl) Via.refl Fc ?_
  refine Road.aloadN 10 bInf_d10 rfl ?_
  refine Road.callV (B' := bCod) (a := s) 11 (argsL := []) (rest := [(.int (0 : Int32))]) "java/lang/String" 1 bInf_d11 (wI hw 207 rfl) (wI hw 95 rfl) (fun vm hz => Road.notFace_sib (args := #[]) (mv (s := D.s.setVm vm) hz (wI hw 57 rfl)) rfl) (wI hw 97 rfl) (wI hw 96 rfl) (wI hw 5 rfl) (wI hw 98 rfl) (by decide) T.1 (cCod l Z a0 hw n0 hEW s h0 σ T.2.1 cp Hc hcp) (lenOf bCod_pd rfl) rfl rfl rfl (by decide) (by decide) (ce' := 0) (sl' := 0) rfl rfl (by decide) (by decide) ?_
  rintro _ h_1 σ_2 m_3 ⟨rfl, rfl⟩
  refine Road.Go.weaken (σ' := σ) m_3 (Nat.le_refl _) (Nat.le_refl _) ?_
  refine Road.icmp_eq 14 21 bInf_d14 rfl (fun hc14 => ?_) (fun q => absurd q (by decide))
  exact Road.ret 21 bInf_d21 rfl (by decide) (by decide) (fun σ' m => ⟨rfl, rfl⟩)
def bGeB : Road.Bdy := (⟨"java/lang/String", "getBytes", "([BIB)V"⟩, jdk_42_method_147_code, 4, none, { frames := 1, cells := 0, slots := 0, locals := 18 })
theorem bGeB_d0 : decode bGeB.bs 0 = .ok (.aload_n 0, 1) := by decide +kernel
theorem bGeB_d1 : decode bGeB.bs 1 = .ok (.invokevirtual 335, 3) := by decide +kernel
theorem bGeB_d4 : decode bGeB.bs 4 = .ok (.iload_n 3, 1) := by decide +kernel
theorem bGeB_d5 : decode bGeB.bs 5 = .ok (.if_icmp .ne 23, 3) := by decide +kernel
theorem bGeB_d8 : decode bGeB.bs 8 = .ok (.aload_n 0, 1) := by decide +kernel
theorem bGeB_d9 : decode bGeB.bs 9 = .ok (.getfield 9, 3) := by decide +kernel
theorem bGeB_d12 : decode bGeB.bs 12 = .ok (.iconst 0, 1) := by decide +kernel
theorem bGeB_d13 : decode bGeB.bs 13 = .ok (.aload_n 1, 1) := by decide +kernel
theorem bGeB_d14 : decode bGeB.bs 14 = .ok (.iload_n 2, 1) := by decide +kernel
theorem bGeB_d15 : decode bGeB.bs 15 = .ok (.iload_n 3, 1) := by decide +kernel
theorem bGeB_d16 : decode bGeB.bs 16 = .ok (.ishl, 1) := by decide +kernel
theorem bGeB_d17 : decode bGeB.bs 17 = .ok (.aload_n 0, 1) := by decide +kernel
theorem bGeB_d18 : decode bGeB.bs 18 = .ok (.getfield 9, 3) := by decide +kernel
theorem bGeB_d21 : decode bGeB.bs 21 = .ok (.arraylength, 1) := by decide +kernel
theorem bGeB_d22 : decode bGeB.bs 22 = .ok (.invokestatic 212, 3) := by decide +kernel
theorem bGeB_d25 : decode bGeB.bs 25 = .ok (.goto 18, 3) := by decide +kernel
theorem bGeB_d28 : decode bGeB.bs 28 = .ok (.aload_n 0, 1) := by decide +kernel
theorem bGeB_d29 : decode bGeB.bs 29 = .ok (.getfield 9, 3) := by decide +kernel
theorem bGeB_d32 : decode bGeB.bs 32 = .ok (.iconst 0, 1) := by decide +kernel
theorem bGeB_d33 : decode bGeB.bs 33 = .ok (.aload_n 1, 1) := by decide +kernel
theorem bGeB_d34 : decode bGeB.bs 34 = .ok (.iload_n 2, 1) := by decide +kernel
theorem bGeB_d35 : decode bGeB.bs 35 = .ok (.aload_n 0, 1) := by decide +kernel
theorem bGeB_d36 : decode bGeB.bs 36 = .ok (.getfield 9, 3) := by decide +kernel
theorem bGeB_d39 : decode bGeB.bs 39 = .ok (.arraylength, 1) := by decide +kernel
theorem bGeB_d40 : decode bGeB.bs 40 = .ok (.invokestatic 106, 3) := by decide +kernel
theorem bGeB_d43 : decode bGeB.bs 43 = .ok (.return_, 1) := by decide +kernel
theorem bGeB_pd : parseMethodDescriptor "([BIB)V" = some ⟨[(.array .byte), .int, .byte], none⟩ := by decide +kernel
theorem bGeB_pn : plainFor bGeB.y = true := plainFor_of_name (show plainName "java/lang/String" = true from by first | (simp [plainName, overriddenIn]; done) | decide +kernel)
theorem cGeB (l : Launch) (Z : State) (a0 : Array Value) (hw : ∀ d ∈ tables_1, d.before a0 Z = true) (n0 : Nat) (hEW : EW Z a0 consts_1) (s sb d : Addr) (ds : List Int32) (vd : List Value) (i : Nat) (h0 : Heap) (σ : Addr → Prop) (T : Road.Str Z h0 s sb ds) (Ad : Road.Ary Z h0 d .byte vd) (hi : i + ds.length ≤ vd.length) (sd : σ d) (cp : Int32) (Hc : Sta Z Z.heap Road.SN "COMPACT_STRINGS" "Z" (.int cp)) (hcp : ¬ cp = 0) :
    Road.Con l Z consts_1 n0 false bGeB [] σ #[(.ref s), (.ref d), (.int (Nat.toInt32 i)), (.int (0 : Int32))] h0 (fun v h2 _ => v = none ∧ Keep h0 h2 [d] ∧ Road.Ary Z h2 d .byte (vd.take i ++ ((ds.map Road.byt).drop 0).take ds.length ++ vd.drop (i + ds.length))) := by
  have hsm := Ad.small
  refine Road.Con.of bGeB_pn hEW #[.val (.ref s), .val (.ref d), .val (.int (Nat.toInt32 i)), .val (.int (0 : Int32))] (fun m => Road.ent (Road.laid1 rfl (Road.laid1 rfl (Road.laid1 rfl (Road.laid1 rfl Road.laid0)))) (k := 0) rfl rfl) ?_
  intro D hD
  refine Road.aloadN 0 bGeB_d0 rfl ?_
  refine Road.callV (B' := bCod) (a := s) 1 (argsL := []) (rest := []) "java/lang/String" 0 bGeB_d1 (wI hw 94 rfl) (wI hw 95 rfl) (fun vm hz => Road.notFace_sib (args := #[]) (mv (s := D.s.setVm vm) hz (wI hw 57 rfl)) rfl) (wI hw 97 rfl) (wI hw 96 rfl) (wI hw 5 rfl) (wI hw 98 rfl) (by decide) T.1 (cCod l Z a0 hw n0 hEW s h0 σ T.2.1 cp Hc hcp) (lenOf bCod_pd rfl) rfl rfl rfl (by decide) (by decide) (ce' := 0) (sl' := 0) rfl rfl (by decide) (by decide) ?_
  rintro _ h_1 σ_2 m_3 ⟨rfl, rfl⟩
  refine Road.Go.weaken (σ' := σ) m_3 (Nat.le_refl _) (Nat.le_refl _) ?_
  refine Road.iloadN 4 bGeB_d4 rfl ?_
  refine Road.icmp_ne 5 28 bGeB_d5 rfl (fun q => absurd q (by decide)) (fun hc5 => ?_)
  refine Road.aloadN 8 bGeB_d8 rfl ?_
  refine Road.getfield 9 bGeB_d9 (wI hw 30 rfl) Via.refl T.2.2.1 ?_
  refine Road.iconst 12 (0 : Int32) bGeB_d12 rfl ?_
  refine Road.aloadN 13 bGeB_d13 rfl ?_
  refine Road.iloadN 14 bGeB_d14 rfl ?_
  refine Road.iloadN 15 bGeB_d15 rfl ?_
  refine Road.ishl 16 bGeB_d16 ?_
  refine Road.nameI ?_
  intro z_5 hz_5
  obtain rfl : z_5 = (Nat.toInt32 i) := by rw [hz_5]; exact Road.shl0 _
  refine Road.aloadN 17 bGeB_d17 rfl ?_
  refine Road.getfield 18 bGeB_d18 (wI hw 30 rfl) Via.refl T.2.2.1 ?_
  refine Road.alen 21 (Nat.toInt32 ds.length) bGeB_d21 T.2.2.2.1 (n := ds.length) (List.length_map _) rfl ?_
  refine Road.acopy 22 0 i ds.length 0 bGeB_d22 (wI hw 213 rfl) (wI hw 196 rfl) (wI hw 194 rfl) (wI hw 195 rfl) T.2.2.2.1 Ad rfl rfl (Road.n32 (by omega)) (Road.n32 (by omega)) (by rw [List.length_map]; omega) hi sd rfl rfl (by decide) (by decide) ?_
  intro h_6 K_7 Ae
  refine Road.goto 25 43 bGeB_d25 rfl ?_
  exact Road.ret 43 bGeB_d43 rfl (by decide) (by decide) (fun σ' m => ⟨rfl, K_7, Ae⟩)
def bPut : Road.Bdy := (⟨"java/lang/AbstractStringBuilder", "putStringAt", "(ILjava/lang/String;)V"⟩, jdk_68_method_73_code, 3, none, { frames := 2, cells := 0, slots := 0, locals := 33 })
theorem bPut_d0 : decode bPut.bs 0 = .ok (.aload_n 0, 1) := by decide +kernel
theorem bPut_d1 : decode bPut.bs 1 = .ok (.aload_n 2, 1) := by decide +kernel
theorem bPut_d2 : decode bPut.bs 2 = .ok (.invokevirtual 397, 3) := by decide +kernel
theorem bPut_d5 : decode bPut.bs 5 = .ok (.aload_n 2, 1) := by decide +kernel
theorem bPut_d6 : decode bPut.bs 6 = .ok (.aload_n 0, 1) := by decide +kernel
theorem bPut_d7 : decode bPut.bs 7 = .ok (.getfield 15, 3) := by decide +kernel
theorem bPut_d10 : decode bPut.bs 10 = .ok (.iload_n 1, 1) := by decide +kernel
theorem bPut_d11 : decode bPut.bs 11 = .ok (.aload_n 0, 1) := by decide +kernel
theorem bPut_d12 : decode bPut.bs 12 = .ok (.getfield 22, 3) := by decide +kernel
theorem bPut_d15 : decode bPut.bs 15 = .ok (.invokevirtual 399, 3) := by decide +kernel
theorem bPut_d18 : decode bPut.bs 18 = .ok (.return_, 1) := by decide +kernel
theorem bPut_pd : parseMethodDescriptor "(ILjava/lang/String;)V" = some ⟨[.int, (.object "java/lang/String")], none⟩ := by decide +kernel
theorem bPut_pn : plainFor bPut.y = true := plainFor_of_name (show plainName "java/lang/AbstractStringBuilder" = true from by first | (simp [plainName, overriddenIn]; done) | decide +kernel)
theorem cPut (l : Launch) (Z : State) (a0 : Array Value) (hw : ∀ d ∈ tables_1, d.before a0 Z = true) (n0 : Nat) (hEW : EW Z a0 consts_1) (q b : Addr) (cs : List Int32) (N : Nat) (s sb : Addr) (ds : List Int32) (h0 : Heap) (σ : Addr → Prop) (S : Road.Sb Z h0 q b cs N) (T : Road.Str Z h0 s sb ds) (hm : cs.length + ds.length ≤ N) (sb_ : σ b) (cp : Int32) (Hc : Sta Z Z.heap Road.SN "COMPACT_STRINGS" "Z" (.int cp)) (hcp : ¬ cp = 0) :
    Road.Con l Z consts_1 n0 false bPut [] σ #[(.ref q), (.int (Nat.toInt32 cs.length)), (.ref s)] h0 (fun v h2 _ => v = none ∧ Keep h0 h2 [b] ∧ ∃ r, Road.Ary Z h2 b .byte ((cs ++ ds).map Road.byt ++ r) ∧ (cs ++ ds).length + r.length = N) := by
  have hN := S.small
  have hle := S.le
  obtain ⟨E, Fc, Fv, Fn, ⟨r, Ab, hr⟩, hlt⟩ := S
  refine Road.Con.of bPut_pn hEW #[.val (.ref q), .val (.int (Nat.toInt32 cs.length)), .val (.ref s)] (fun m => Road.ent (Road.laid1 rfl (Road.laid1 rfl (Road.laid1 rfl Road.laid0))) (k := 0) rfl rfl) ?_
  intro D hD
  refine Road.aloadN 0 bPut_d0 rfl ?_
  refine Road.aloadN 1 bPut_d1 rfl ?_
  refine Road.callP (B' := bInf) (a := q) 2 (argsL := [(.ref s)]) (rest := []) "java/lang/StringBuilder" 0 bPut_d2 (wI hw 202 rfl) (wI hw 204 rfl) (wI hw 205 rfl) (wI hw 203 rfl) (wI hw 144 rfl) (wI hw 206 rfl) (by decide) E (cInf l Z a0 hw n0 hEW q s sb ds h0 σ Fc T cp Hc hcp) (lenOf bInf_pd rfl) rfl rfl rfl (by decide) (by decide) (ce' := 0) (sl' := 0) rfl rfl (by decide) (by decide) ?_
  rintro _ h_1 σ_2 m_3 ⟨rfl, rfl⟩
  refine Road.Go.weaken (σ' := σ) m_3 (Nat.le_refl _) (Nat.le_refl _) ?_
  refine Road.aloadN 5 bPut_d5 rfl ?_
  refine Road.aloadN 6 bPut_d6 rfl ?_
  refine Road.getfield 7 bPut_d7 (wI hw 148 rfl) Via.refl Fv ?_
  refine Road.iloadN 10 bPut_d10 rfl ?_
  refine Road.aloadN 11 bPut_d11 rfl ?_
  refine Road.getfield 12 bPut_d12 (wI hw 150 rfl) Via.refl Fc ?_
  refine Road.callV (B' := bGeB) (a := s) 15 (argsL := [(.ref b), (.int (Nat.toInt32 cs.length)), (.int (0 : Int32))]) (rest := []) "java/lang/String" 0 bPut_d15 (wI hw 208 rfl) (wI hw 209 rfl) (fun vm hz => Road.notFace_sib (args := #[]) (mv (s := D.s.setVm vm) hz (wI hw 57 rfl)) rfl) (wI hw 211 rfl) (wI hw 210 rfl) (wI hw 5 rfl) (wI hw 212 rfl) (by decide) T.1 (cGeB l Z a0 hw n0 hEW s sb b ds _ cs.length h0 σ T Ab (by rw [List.length_append, List.length_map]; omega) sb_ cp Hc hcp) (lenOf bGeB_pd rfl) rfl rfl rfl (by decide) (by decide) (ce' := 0) (sl' := 0) rfl rfl (by decide) (by decide) ?_
  rintro _ h_5 σ_6 m_7 ⟨rfl, K_8, A2⟩
  rw [Road.put_str _ _ _ (by omega)] at A2
  exact Road.ret 18 bPut_d18 rfl (by decide) (by decide) (fun σ' m => ⟨rfl, K_8, _, A2, by rw [List.length_append, List.length_drop]; omega⟩)
def bAp0 : Road.Bdy := (⟨"java/lang/AbstractStringBuilder", "append", "(Ljava/lang/String;)Ljava/lang/AbstractStringBuilder;"⟩, jdk_68_method_22_code, 3, (some (.object "java/lang/AbstractStringBuilder")), { frames := 3, cells := 0, slots := 0, locals := 48 })
theorem bAp0_d0 : decode bAp0.bs 0 = .ok (.aload_n 1, 1) := by decide +kernel
theorem bAp0_d1 : decode bAp0.bs 1 = .ok (.ifnonnull 8, 3) := by decide +kernel
theorem bAp0_d4 : decode bAp0.bs 4 = .ok (.aload_n 0, 1) := by decide +kernel
theorem bAp0_d5 : decode bAp0.bs 5 = .ok (.invokevirtual 204, 3) := by decide +kernel
theorem bAp0_d8 : decode bAp0.bs 8 = .ok (.areturn, 1) := by decide +kernel
theorem bAp0_d9 : decode bAp0.bs 9 = .ok (.aload_n 1, 1) := by decide +kernel
theorem bAp0_d10 : decode bAp0.bs 10 = .ok (.invokevirtual 32, 3) := by decide +kernel
theorem bAp0_d13 : decode bAp0.bs 13 = .ok (.istore_n 2, 1) := by decide +kernel
theorem bAp0_d14 : decode bAp0.bs 14 = .ok (.aload_n 0, 1) := by decide +kernel
theorem bAp0_d15 : decode bAp0.bs 15 = .ok (.aload_n 0, 1) := by decide +kernel
theorem bAp0_d16 : decode bAp0.bs 16 = .ok (.getfield 79, 3) := by decide +kernel
theorem bAp0_d19 : decode bAp0.bs 19 = .ok (.iload_n 2, 1) := by decide +kernel
theorem bAp0_d20 : decode bAp0.bs 20 = .ok (.iadd, 1) := by decide +kernel
theorem bAp0_d21 : decode bAp0.bs 21 = .ok (.invokevirtual 100, 3) := by decide +kernel
theorem bAp0_d24 : decode bAp0.bs 24 = .ok (.aload_n 0, 1) := by decide +kernel
theorem bAp0_d25 : decode bAp0.bs 25 = .ok (.aload_n 0, 1) := by decide +kernel
theorem bAp0_d26 : decode bAp0.bs 26 = .ok (.getfield 79, 3) := by decide +kernel
theorem bAp0_d29 : decode bAp0.bs 29 = .ok (.aload_n 1, 1) := by decide +kernel
theorem bAp0_d30 : decode bAp0.bs 30 = .ok (.invokevirtual 208, 3) := by decide +kernel
theorem bAp0_d33 : decode bAp0.bs 33 = .ok (.aload_n 0, 1) := by decide +kernel
theorem bAp0_d34 : decode bAp0.bs 34 = .ok (.dup, 1) := by decide +kernel
theorem bAp0_d35 : decode bAp0.bs 35 = .ok (.getfield 79, 3) := by decide +kernel
theorem bAp0_d38 : decode bAp0.bs 38 = .ok (.iload_n 2, 1) := by decide +kernel
theorem bAp0_d39 : decode bAp0.bs 39 = .ok (.iadd, 1) := by decide +kernel
theorem bAp0_d40 : decode bAp0.bs 40 = .ok (.putfield 79, 3) := by decide +kernel
theorem bAp0_d43 : decode bAp0.bs 43 = .ok (.aload_n 0, 1) := by decide +kernel
theorem bAp0_d44 : decode bAp0.bs 44 = .ok (.areturn, 1) := by decide +kernel
theorem bAp0_pd : parseMethodDescriptor "(Ljava/lang/String;)Ljava/lang/AbstractStringBuilder;" = some ⟨[(.object "java/lang/String")], (some (.object "java/lang/AbstractStringBuilder"))⟩ := by decide +kernel
theorem bAp0_pn : plainFor bAp0.y = true := plainFor_of_name (show plainName "java/lang/AbstractStringBuilder" = true from by first | (simp [plainName, overriddenIn]; done) | decide +kernel)
theorem cAp0 (l : Launch) (Z : State) (a0 : Array Value) (hw : ∀ d ∈ tables_1, d.before a0 Z = true) (n0 : Nat) (hEW : EW Z a0 consts_1) (q b : Addr) (cs : List Int32) (N : Nat) (s sb : Addr) (ds : List Int32) (h0 : Heap) (σ : Addr → Prop) (S : Road.Sb Z h0 q b cs N) (T : Road.Str Z h0 s sb ds) (hm : cs.length + ds.length ≤ N) (sb_ : σ b) (sq : σ q) (cp : Int32) (Hc : Sta Z Z.heap Road.SN "COMPACT_STRINGS" "Z" (.int cp)) (hcp : ¬ cp = 0) :
    Road.Con l Z consts_1 n0 false bAp0 [] σ #[(.ref q), (.ref s)] h0 (fun v h2 s2 => v = some (.ref q) ∧ Keep h0 h2 [q, b] ∧ Road.Sb Z h2 q b (cs ++ ds) N) := by
  have S0 := S
  have hN := S.small
  have hle := S.le
  obtain ⟨E, Fc, Fv, Fn, ⟨r, Ab, hr⟩, hlt⟩ := S
  have nqb : q ≠ b := by obtain ⟨c, Ar, -⟩ := Ab; exact ne_arr E (wI hw 135 rfl) Ar
  refine Road.Con.of bAp0_pn hEW #[.val (.ref q), .val (.ref s), .unset] (fun m => Road.ent (Road.laid1 rfl (Road.laid1 rfl Road.laid0)) (k := 1) rfl rfl) ?_
  intro D hD
  refine Road.aloadN 0 bAp0_d0 rfl ?_
  refine Road.ifnonnull 1 9 rfl bAp0_d1 rfl (fun hc1 => ?_) (fun q => absurd q (by simp))
  refine Road.aloadN 9 bAp0_d9 rfl ?_
  refine Road.callV (B' := bLen) (a := s) 10 (argsL := []) (rest := []) "java/lang/String" 0 bAp0_d10 (wI hw 163 rfl) (wI hw 90 rfl) (fun vm hz => Road.notFace_sib (args := #[]) (mv (s := D.s.setVm vm) hz (wI hw 57 rfl)) rfl) (wI hw 92 rfl) (wI hw 91 rfl) (wI hw 5 rfl) (wI hw 93 rfl) (by decide) T.1 (cLen l Z a0 hw n0 hEW s sb ds h0 σ T cp Hc hcp) (lenOf bLen_pd rfl) rfl rfl rfl (by decide) (by decide) (ce' := 0) (sl' := 0) rfl rfl (by decide) (by decide) ?_
  rintro _ h_1 σ_2 m_3 ⟨rfl, rfl⟩
  refine Road.Go.weaken (σ' := σ) m_3 (Nat.le_refl _) (Nat.le_refl _) ?_
  refine Road.istoreN 13 #[.val (.ref q), .val (.ref s), .val (.int (Nat.toInt32 ds.length))] bAp0_d13 rfl ?_
  refine Road.aloadN 14 bAp0_d14 rfl ?_
  refine Road.aloadN 15 bAp0_d15 rfl ?_
  refine Road.getfield 16 bAp0_d16 (wI hw 164 rfl) Via.refl Fn ?_
  refine Road.iloadN 19 bAp0_d19 rfl ?_
  refine Road.iadd 20 bAp0_d20 ?_
  refine Road.nameI ?_
  intro z_5 hz_5
  obtain rfl : z_5 = (Nat.toInt32 (cs.length + ds.length)) := by rw [hz_5]; exact Road.add32n _ _
  refine Road.callP (B' := bEn0) (a := q) 21 (argsL := [(.int (Nat.toInt32 (cs.length + ds.length)))]) (rest := []) "java/lang/StringBuilder" 0 bAp0_d21 (wI hw 166 rfl) (wI hw 168 rfl) (wI hw 169 rfl) (wI hw 167 rfl) (wI hw 144 rfl) (wI hw 170 rfl) (by decide) E (cEn0 l Z a0 hw n0 hEW q b cs N (cs.length + ds.length) h0 σ S0 hm) (lenOf bEn0_pd rfl) rfl rfl rfl (by decide) (by decide) (ce' := 0) (sl' := 0) rfl rfl (by decide) (by decide) ?_
  rintro _ h_6 σ_7 m_8 ⟨rfl, rfl⟩
  refine Road.Go.weaken (σ' := σ) m_8 (Nat.le_refl _) (Nat.le_refl _) ?_
  refine Road.aloadN 24 bAp0_d24 rfl ?_
  refine Road.aloadN 25 bAp0_d25 rfl ?_
  refine Road.getfield 26 bAp0_d26 (wI hw 164 rfl) Via.refl Fn ?_
  refine Road.aloadN 29 bAp0_d29 rfl ?_
  refine Road.callP (B' := bPut) (a := q) 30 (argsL := [(.int (Nat.toInt32 cs.length)), (.ref s)]) (rest := []) "java/lang/StringBuilder" 0 bAp0_d30 (wI hw 197 rfl) (wI hw 199 rfl) (wI hw 200 rfl) (wI hw 198 rfl) (wI hw 144 rfl) (wI hw 201 rfl) (by decide) E (cPut l Z a0 hw n0 hEW q b cs N s sb ds h0 σ S0 T hm sb_ cp Hc hcp) (lenOf bPut_pd rfl) rfl rfl rfl (by decide) (by decide) (ce' := 0) (sl' := 0) rfl rfl (by decide) (by decide) ?_
  rintro _ h_10 σ_11 m_12 ⟨rfl, K_13, r3, A3, hr3⟩
  replace E := E.keep K_13
  replace Fc := Fc.keep K_13 (ninS nqb nin0)
  replace Fv := Fv.keep K_13 (ninS nqb nin0)
  replace Fn := Fn.keep K_13 (ninS nqb nin0)
  replace sq := m_12 _ sq
  replace sb_ := m_12 _ sb_
  refine Road.aloadN 33 bAp0_d33 rfl ?_
  refine Road.dup 34 bAp0_d34 ?_
  refine Road.getfield 35 bAp0_d35 (wI hw 164 rfl) Via.refl Fn ?_
  refine Road.iloadN 38 bAp0_d38 rfl ?_
  refine Road.iadd 39 bAp0_d39 ?_
  refine Road.nameI ?_
  intro z_16 hz_16
  obtain rfl : z_16 = (Nat.toInt32 (cs ++ ds).length) := by rw [hz_16]; rw [Road.add32n, List.length_append]
  refine Road.putfield 40 bAp0_d40 (wI hw 164 rfl) Via.refl Fn E (Or.inl (wI hw 165 rfl)) (wI hw 135 rfl) (ty := .int) (by decide) rfl rfl sq ?_
  intro h_19 W_17 K_18
  replace Fn := Fn.same W_17
  replace Fc := Fc.other W_17 (Or.inr (slot_ne (Or.inl (wI hw 151 rfl)) (Or.inl (wI hw 165 rfl)) (by decide) (t := .byte) (by decide) (t' := .int) (by decide)))
  replace Fv := Fv.other W_17 (Or.inr (slot_ne (Or.inl (wI hw 149 rfl)) (Or.inl (wI hw 165 rfl)) (by decide) (t := (.array .byte)) (by decide) (t' := .int) (by decide)))
  replace E := E.keep K_18
  replace A3 := A3.keep K_18 (ninS (Ne.symm nqb) nin0)
  refine Road.aloadN 43 bAp0_d43 rfl ?_
  exact Road.aret 44 bAp0_d44 (t := (.object "java/lang/AbstractStringBuilder")) rfl rfl rfl (by decide) (by decide) (fun σ' m => ⟨rfl, (Road.keep2 K_13 K_18), ⟨E, Fc, Fv, Fn, ⟨r3, A3, hr3⟩, (fun c hc => (List.mem_append.mp hc).elim (hlt c) (T.2.2.2.2 c))⟩⟩)
def bSp0 : Road.Bdy := (⟨"java/lang/StringBuilder", "append", "(Ljava/lang/String;)Ljava/lang/StringBuilder;"⟩, jdk_67_method_7_code, 2, (some (.object "java/lang/StringBuilder")), { frames := 4, cells := 0, slots := 0, locals := 62 })
theorem bSp0_d0 : decode bSp0.bs 0 = .ok (.aload_n 0, 1) := by decide +kernel
theorem bSp0_d1 : decode bSp0.bs 1 = .ok (.aload_n 1, 1) := by decide +kernel
theorem bSp0_d2 : decode bSp0.bs 2 = .ok (.invokespecial 29, 3) := by decide +kernel
theorem bSp0_d5 : decode bSp0.bs 5 = .ok (.pop, 1) := by decide +kernel
theorem bSp0_d6 : decode bSp0.bs 6 = .ok (.aload_n 0, 1) := by decide +kernel
theorem bSp0_d7 : decode bSp0.bs 7 = .ok (.areturn, 1) := by decide +kernel
theorem bSp0_pd : parseMethodDescriptor "(Ljava/lang/String;)Ljava/lang/StringBuilder;" = some ⟨[(.object "java/lang/String")], (some (.object "java/lang/StringBuilder"))⟩ := by decide +kernel
theorem bSp0_pn : plainFor bSp0.y = true := plainFor_of_name (show plainName "java/lang/StringBuilder" = true from by first | (simp [plainName, overriddenIn]; done) | decide +kernel)
theorem cSp0 (l : Launch) (Z : State) (a0 : Array Value) (hw : ∀ d ∈ tables_1, d.before a0 Z = true) (n0 : Nat) (hEW : EW Z a0 consts_1) (q b : Addr) (cs : List Int32) (N : Nat) (s sb : Addr) (ds : List Int32) (h0 : Heap) (σ : Addr → Prop) (S : Road.Sb Z h0 q b cs N) (T : Road.Str Z h0 s sb ds) (hm : cs.length + ds.length ≤ N) (sb_ : σ b) (sq : σ q) (cp : Int32) (Hc : Sta Z Z.heap Road.SN "COMPACT_STRINGS" "Z" (.int cp)) (hcp : ¬ cp = 0) :
    Road.Con l Z consts_1 n0 false bSp0 [] σ #[(.ref q), (.ref s)] h0 (fun v h2 s2 => v = some (.ref q) ∧ Keep h0 h2 [q, b] ∧ Road.Sb Z h2 q b (cs ++ ds) N) := by
  refine Road.Con.of bSp0_pn hEW #[.val (.ref q), .val (.ref s)] (fun m => Road.ent (Road.laid1 rfl (Road.laid1 rfl Road.laid0)) (k := 0) rfl rfl) ?_
  intro D hD
  refine Road.aloadN 0 bSp0_d0 rfl ?_
  refine Road.aloadN 1 bSp0_d1 rfl ?_
  refine Road.callUp (B' := bAp0) (a := q) 2 (argsL := [(.ref s)]) (rest := []) "java/lang/StringBuilder" 0 bSp0_d2 (wI hw 158 rfl) (Road.notFace_sib (wI hw 169 rfl) rfl) (wI hw 159 rfl) (wI hw 160 rfl) (wI hw 144 rfl) (wI hw 162 rfl) (by decide) (by decide) S.1 (cAp0 l Z a0 hw n0 hEW q b cs N s sb ds h0 σ S T hm sb_ sq cp Hc hcp) (lenOf bAp0_pd rfl) rfl rfl rfl (by decide) (by decide) (ce' := 0) (sl' := 0) rfl rfl (by decide) (by decide) ?_
  rintro _ h_1 σ_2 m_3 ⟨rfl, K_4, S2⟩
  refine Road.pop 5 bSp0_d5 ?_
  refine Road.aloadN 6 bSp0_d6 rfl ?_
  exact Road.aret 7 bSp0_d7 (t := (.object "java/lang/StringBuilder")) rfl rfl rfl (by decide) (by decide) (fun σ' m => ⟨rfl, K_4, S2⟩)
def bMin : Road.Bdy := (⟨"java/lang/Math", "min", "(II)I"⟩, jdk_29_method_69_code, 2, (some .int), { frames := 0, cells := 0, slots := 0, locals := 0 })
theorem bMin_d0 : decode bMin.bs 0 = .ok (.iload_n 0, 1) := by decide +kernel
theorem bMin_d1 : decode bMin.bs 1 = .ok (.iload_n 1, 1) := by decide +kernel
theorem bMin_d2 : decode bMin.bs 2 = .ok (.if_icmp .gt 7, 3) := by decide +kernel
theorem bMin_d5 : decode bMin.bs 5 = .ok (.iload_n 0, 1) := by decide +kernel
theorem bMin_d6 : decode bMin.bs 6 = .ok (.goto 4, 3) := by decide +kernel
theorem bMin_d9 : decode bMin.bs 9 = .ok (.iload_n 1, 1) := by decide +kernel
theorem bMin_d10 : decode bMin.bs 10 = .ok (.ireturn, 1) := by decide +kernel
theorem bMin_pd : parseMethodDescriptor "(II)I" = some ⟨[.int, .int], (some .int)⟩ := by decide +kernel
theorem bMin_pn : plainFor bMin.y = true := Jvm.Free.JP.mathPlain rfl (by decide +kernel)
theorem cMin (l : Launch) (Z : State) (a0 : Array Value) (hw : ∀ d ∈ tables_1, d.before a0 Z = true) (n0 : Nat) (hEW : EW Z a0 consts_1) (i j : Nat) (h0 : Heap) (σ : Addr → Prop) (hi : i < 2147483648) (hj : j < 2147483648) :
    Road.Con l Z consts_1 n0 false bMin [] σ #[(.int (Nat.toInt32 i)), (.int (Nat.toInt32 j))] h0 (fun v h2 _ => v = some (.int (Nat.toInt32 (min i j))) ∧ h0 = h2) := by
  refine Road.Con.of bMin_pn hEW #[.val (.int (Nat.toInt32 i)), .val (.int (Nat.toInt32 j))] (fun m => Road.ent (Road.laid1 rfl (Road.laid1 rfl Road.laid0)) (k := 0) rfl rfl) ?_
  intro D hD
  refine Road.iloadN 0 bMin_d0 rfl ?_
  refine Road.iloadN 1 bMin_d1 rfl ?_
  refine Road.icmp_gt 2 9 bMin_d2 rfl (fun hc2 => ?_) (fun hc2 => ?_)
  · skip
    refine Road.iloadN 9 bMin_d9 rfl ?_
    exact Road.iretI 10 bMin_d10 rfl (by decide) (by decide) (fun σ' m => ⟨by rw [Road.lt32 hj hi] at hc2; rw [Nat.min_eq_right (by omega)], rfl⟩)
  · skip
    refine Road.iloadN 5 bMin_d5 rfl ?_
    refine Road.goto 6 10 bMin_d6 rfl ?_
    exact Road.iretI 10 bMin_d10 rfl (by decide) (by decide) (fun σ' m => ⟨by rw [Road.lt32 hj hi] at hc2; rw [Nat.min_eq_left (by omega)], rfl⟩)
def bCpO : Road.Bdy := (⟨"java/util/Arrays", "copyOf", "([BI)[B"⟩, jdk_65_method_121_code, 3, (some (.array .byte)), { frames := 1, cells := 1, slots := 70, locals := 22 })
theorem bCpO_d0 : decode bCpO.bs 0 = .ok (.iload_n 1, 1) := by decide +kernel
theorem bCpO_d1 : decode bCpO.bs 1 = .ok (.aload_n 0, 1) := by decide +kernel
theorem bCpO_d2 : decode bCpO.bs 2 = .ok (.arraylength, 1) := by decide +kernel
theorem bCpO_d3 : decode bCpO.bs 3 = .ok (.if_icmp .ne 11, 3) := by decide +kernel
theorem bCpO_d6 : decode bCpO.bs 6 = .ok (.aload_n 0, 1) := by decide +kernel
theorem bCpO_d7 : decode bCpO.bs 7 = .ok (.invokevirtual 310, 3) := by decide +kernel
theorem bCpO_d10 : decode bCpO.bs 10 = .ok (.checkcast 311, 3) := by decide +kernel
theorem bCpO_d13 : decode bCpO.bs 13 = .ok (.areturn, 1) := by decide +kernel
theorem bCpO_d14 : decode bCpO.bs 14 = .ok (.iload_n 1, 1) := by decide +kernel
theorem bCpO_d15 : decode bCpO.bs 15 = .ok (.newarray .byte, 2) := by decide +kernel
theorem bCpO_d17 : decode bCpO.bs 17 = .ok (.astore_n 2, 1) := by decide +kernel
theorem bCpO_d18 : decode bCpO.bs 18 = .ok (.aload_n 0, 1) := by decide +kernel
theorem bCpO_d19 : decode bCpO.bs 19 = .ok (.iconst 0, 1) := by decide +kernel
theorem bCpO_d20 : decode bCpO.bs 20 = .ok (.aload_n 2, 1) := by decide +kernel
theorem bCpO_d21 : decode bCpO.bs 21 = .ok (.iconst 0, 1) := by decide +kernel
theorem bCpO_d22 : decode bCpO.bs 22 = .ok (.aload_n 0, 1) := by decide +kernel
theorem bCpO_d23 : decode bCpO.bs 23 = .ok (.arraylength, 1) := by decide +kernel
theorem bCpO_d24 : decode bCpO.bs 24 = .ok (.iload_n 1, 1) := by decide +kernel
theorem bCpO_d25 : decode bCpO.bs 25 = .ok (.invokestatic 304, 3) := by decide +kernel
theorem bCpO_d28 : decode bCpO.bs 28 = .ok (.invokestatic 150, 3) := by decide +kernel
theorem bCpO_d31 : decode bCpO.bs 31 = .ok (.aload_n 2, 1) := by decide +kernel
theorem bCpO_d32 : decode bCpO.bs 32 = .ok (.areturn, 1) := by decide +kernel
theorem bCpO_pd : parseMethodDescriptor "([BI)[B" = some ⟨[(.array .byte), .int], (some (.array .byte))⟩ := by decide +kernel
theorem bCpO_pn : plainFor bCpO.y = true := plainFor_of_name (show plainName "java/util/Arrays" = true from by first | (simp [plainName, overriddenIn]; done) | decide +kernel)
theorem cCpO (l : Launch) (Z : State) (a0 : Array Value) (hw : ∀ d ∈ tables_1, d.before a0 Z = true) (n0 : Nat) (hEW : EW Z a0 consts_1) (b : Addr) (vs : List Value) (m : Nat) (h0 : Heap) (σ : Addr → Prop) (A : Road.Ary Z h0 b .byte vs) (hm : vs.length < m) (hcap : m ≤ 70) :
    Road.Con l Z consts_1 n0 false bCpO [] σ #[(.ref b), (.int (Nat.toInt32 m))] h0 (fun v h2 s2 => ∃ d, v = some (.ref d) ∧ h0.size ≤ d ∧ Keep h0 h2 [] ∧ s2 d ∧ Road.Ary Z h2 d .byte (vs ++ List.replicate (m - vs.length) (.int 0)) ∧ Exa Z h2 d "[B") := by
  have hsm := A.small
  refine Road.Con.of bCpO_pn hEW #[.val (.ref b), .val (.int (Nat.toInt32 m)), .unset] (fun m => Road.ent (Road.laid1 rfl (Road.laid1 rfl Road.laid0)) (k := 1) rfl rfl) ?_
  intro D hD
  refine Road.iloadN 0 bCpO_d0 rfl ?_
  refine Road.aloadN 1 bCpO_d1 rfl ?_
  refine Road.alen 2 (Nat.toInt32 vs.length) bCpO_d2 A (n := vs.length) rfl rfl ?_
  refine Road.icmp_ne 3 14 bCpO_d3 rfl (fun hc3 => ?_) (fun q => absurd q (by rw [Road.eq32 (by omega) (by omega)]; omega))
  refine Road.iloadN 14 bCpO_d14 rfl ?_
  refine Road.newarrayE 15 .byte m 70 "[B" rfl bCpO_d15 rfl (wI hw 21 rfl) (Road.n32 (by omega)) hcap (by decide) (ce' := 1) (sl' := 70) rfl rfl (by decide) (by decide) ?_
  intro d h_1 σ_2 g_3 K_4 lt_5 m_6 s_7 Ad ED
  have ne_b_d : b ≠ d := Nat.ne_of_lt (Nat.lt_of_lt_of_le A.lt (Nat.le_of_eq g_3.symm))
  replace A := A.keep K_4 nin0
  refine Road.astoreN 17 #[.val (.ref b), .val (.int (Nat.toInt32 m)), .val (.ref d)] bCpO_d17 rfl ?_
  refine Road.aloadN 18 bCpO_d18 rfl ?_
  refine Road.iconst 19 (0 : Int32) bCpO_d19 rfl ?_
  refine Road.aloadN 20 bCpO_d20 rfl ?_
  refine Road.iconst 21 (0 : Int32) bCpO_d21 rfl ?_
  refine Road.aloadN 22 bCpO_d22 rfl ?_
  refine Road.alen 23 (Nat.toInt32 vs.length) bCpO_d23 A (n := vs.length) rfl rfl ?_
  refine Road.iloadN 24 bCpO_d24 rfl ?_
  refine Road.callS (B' := bMin) 25 (argsL := [(.int (Nat.toInt32 vs.length)), (.int (Nat.toInt32 m))]) (rest := [(.int (0 : Int32)), (.ref d), (.int (0 : Int32)), (.ref b)]) 4 bCpO_d25 (wI hw 190 rfl) (wI hw 191 rfl) (wI hw 182 rfl) (wI hw 192 rfl) (by decide) (cMin l Z a0 hw n0 hEW vs.length m h_1 σ_2 hsm (by omega)) (lenOf bMin_pd rfl) rfl rfl rfl (by decide) (by decide) (ce' := 1) (sl' := 70) rfl rfl (by decide) (by decide) ?_
  rintro _ h_8 σ_9 m_10 ⟨rfl, rfl⟩
  refine Road.Go.weaken (σ' := σ_2) m_10 (Nat.le_refl _) (Nat.le_refl _) ?_
  refine Road.acopy 28 0 0 vs.length 0 bCpO_d28 (wI hw 193 rfl) (wI hw 196 rfl) (wI hw 194 rfl) (wI hw 195 rfl) A Ad rfl rfl rfl (by rw [Nat.min_eq_left (by omega)]; exact Road.n32 hsm) (by omega) (by rw [List.length_replicate]; omega) s_7 rfl rfl (by decide) (by decide) ?_
  intro h_12 K_13 Ae
  replace A := A.keep K_13 (ninS ne_b_d nin0)
  replace ED := ED.keep K_13
  refine Road.aloadN 31 bCpO_d31 rfl ?_
  exact Road.aret 32 bCpO_d32 (t := (.array .byte)) rfl rfl rfl (by decide) (by decide) (fun σ' m => ⟨d, rfl, Nat.le_of_eq g_3.symm, K_4.trans K_13 (by intro x hx; cases List.mem_singleton.mp hx; exact Or.inr (Nat.le_of_eq g_3.symm)), m _ s_7, by simpa [defaultValue] using Ae, ED⟩)
def bMax : Road.Bdy := (⟨"java/lang/Math", "max", "(II)I"⟩, jdk_29_method_65_code, 2, (some .int), { frames := 0, cells := 0, slots := 0, locals := 0 })
theorem bMax_d0 : decode bMax.bs 0 = .ok (.iload_n 0, 1) := by decide +kernel
theorem bMax_d1 : decode bMax.bs 1 = .ok (.iload_n 1, 1) := by decide +kernel
theorem bMax_d2 : decode bMax.bs 2 = .ok (.if_icmp .lt 7, 3) := by decide +kernel
theorem bMax_d5 : decode bMax.bs 5 = .ok (.iload_n 0, 1) := by decide +kernel
theorem bMax_d6 : decode bMax.bs 6 = .ok (.goto 4, 3) := by decide +kernel
theorem bMax_d9 : decode bMax.bs 9 = .ok (.iload_n 1, 1) := by decide +kernel
theorem bMax_d10 : decode bMax.bs 10 = .ok (.ireturn, 1) := by decide +kernel
theorem bMax_pd : parseMethodDescriptor "(II)I" = some ⟨[.int, .int], (some .int)⟩ := by decide +kernel
theorem bMax_pn : plainFor bMax.y = true := Jvm.Free.JP.mathPlain rfl (by decide +kernel)
theorem cMax (l : Launch) (Z : State) (a0 : Array Value) (hw : ∀ d ∈ tables_1, d.before a0 Z = true) (n0 : Nat) (hEW : EW Z a0 consts_1) (i j : Nat) (h0 : Heap) (σ : Addr → Prop) (hi : i < 2147483648) (hj : j < 2147483648) :
    Road.Con l Z consts_1 n0 false bMax [] σ #[(.int (Nat.toInt32 i)), (.int (Nat.toInt32 j))] h0 (fun v h2 _ => v = some (.int (Nat.toInt32 (max i j))) ∧ h0 = h2) := by
  refine Road.Con.of bMax_pn hEW #[.val (.int (Nat.toInt32 i)), .val (.int (Nat.toInt32 j))] (fun m => Road.ent (Road.laid1 rfl (Road.laid1 rfl Road.laid0)) (k := 0) rfl rfl) ?_
  intro D hD
  refine Road.iloadN 0 bMax_d0 rfl ?_
  refine Road.iloadN 1 bMax_d1 rfl ?_
  refine Road.icmp_lt 2 9 bMax_d2 rfl (fun hc2 => ?_) (fun hc2 => ?_)
  · skip
    refine Road.iloadN 9 bMax_d9 rfl ?_
    exact Road.iretI 10 bMax_d10 rfl (by decide) (by decide) (fun σ' m => ⟨by rw [Road.lt32 hi hj] at hc2; rw [Nat.max_eq_right (by omega)], rfl⟩)
  · skip
    refine Road.iloadN 5 bMax_d5 rfl ?_
    refine Road.goto 6 10 bMax_d6 rfl ?_
    exact Road.iretI 10 bMax_d10 rfl (by decide) (by decide) (fun σ' m => ⟨by rw [Road.lt32 hi hj] at hc2; rw [Nat.max_eq_left (by omega)], rfl⟩)
def bNwL : Road.Bdy := (⟨"jdk/internal/util/ArraysSupport", "newLength", "(III)I"⟩, jdk_48_method_27_code, 4, (some .int), { frames := 1, cells := 0, slots := 0, locals := 14 })
theorem bNwL_d0 : decode bNwL.bs 0 = .ok (.iload_n 0, 1) := by decide +kernel
theorem bNwL_d1 : decode bNwL.bs 1 = .ok (.iload_n 1, 1) := by decide +kernel
theorem bNwL_d2 : decode bNwL.bs 2 = .ok (.iload_n 2, 1) := by decide +kernel
theorem bNwL_d3 : decode bNwL.bs 3 = .ok (.invokestatic 194, 3) := by decide +kernel
theorem bNwL_d6 : decode bNwL.bs 6 = .ok (.iadd, 1) := by decide +kernel
theorem bNwL_d7 : decode bNwL.bs 7 = .ok (.istore_n 3, 1) := by decide +kernel
theorem bNwL_d8 : decode bNwL.bs 8 = .ok (.iconst 0, 1) := by decide +kernel
theorem bNwL_d9 : decode bNwL.bs 9 = .ok (.iload_n 3, 1) := by decide +kernel
theorem bNwL_d10 : decode bNwL.bs 10 = .ok (.if_icmp .ge 11, 3) := by decide +kernel
theorem bNwL_d13 : decode bNwL.bs 13 = .ok (.iload_n 3, 1) := by decide +kernel
theorem bNwL_d14 : decode bNwL.bs 14 = .ok (.ldc 200, 2) := by decide +kernel
theorem bNwL_d16 : decode bNwL.bs 16 = .ok (.if_icmp .gt 5, 3) := by decide +kernel
theorem bNwL_d19 : decode bNwL.bs 19 = .ok (.iload_n 3, 1) := by decide +kernel
theorem bNwL_d20 : decode bNwL.bs 20 = .ok (.ireturn, 1) := by decide +kernel
theorem bNwL_d21 : decode bNwL.bs 21 = .ok (.iload_n 0, 1) := by decide +kernel
theorem bNwL_d22 : decode bNwL.bs 22 = .ok (.iload_n 1, 1) := by decide +kernel
theorem bNwL_d23 : decode bNwL.bs 23 = .ok (.invokestatic 201, 3) := by decide +kernel
theorem bNwL_d26 : decode bNwL.bs 26 = .ok (.ireturn, 1) := by decide +kernel
theorem bNwL_pd : parseMethodDescriptor "(III)I" = some ⟨[.int, .int, .int], (some .int)⟩ := by decide +kernel
theorem bNwL_pn : plainFor bNwL.y = true := plainFor_of_name (show plainName "jdk/internal/util/ArraysSupport" = true from by first | (simp [plainName, overriddenIn]; done) | decide +kernel)
theorem cNwL (l : Launch) (Z : State) (a0 : Array Value) (hw : ∀ d ∈ tables_1, d.before a0 Z = true) (n0 : Nat) (hEW : EW Z a0 consts_1) (i g p : Nat) (h0 : Heap) (σ : Addr → Prop) (hi : 0 < i + max g p) (hb : i + max g p ≤ 2147483639) :
    Road.Con l Z consts_1 n0 false bNwL [] σ #[(.int (Nat.toInt32 i)), (.int (Nat.toInt32 g)), (.int (Nat.toInt32 p))] h0 (fun v h2 _ => v = some (.int (Nat.toInt32 (i + max g p))) ∧ h0 = h2) := by
  refine Road.Con.of bNwL_pn hEW #[.val (.int (Nat.toInt32 i)), .val (.int (Nat.toInt32 g)), .val (.int (Nat.toInt32 p)), .unset] (fun m => Road.ent (Road.laid1 rfl (Road.laid1 rfl (Road.laid1 rfl Road.laid0))) (k := 1) rfl rfl) ?_
  intro D hD
  refine Road.iloadN 0 bNwL_d0 rfl ?_
  refine Road.iloadN 1 bNwL_d1 rfl ?_
  refine Road.iloadN 2 bNwL_d2 rfl ?_
  refine Road.callS (B' := bMax) 3 (argsL := [(.int (Nat.toInt32 g)), (.int (Nat.toInt32 p))]) (rest := [(.int (Nat.toInt32 i))]) 1 bNwL_d3 (wI hw 180 rfl) (wI hw 181 rfl) (wI hw 182 rfl) (wI hw 183 rfl) (by decide) (cMax l Z a0 hw n0 hEW g p h0 σ (by omega) (by omega)) (lenOf bMax_pd rfl) rfl rfl rfl (by decide) (by decide) (ce' := 0) (sl' := 0) rfl rfl (by decide) (by decide) ?_
  rintro _ h_1 σ_2 m_3 ⟨rfl, rfl⟩
  refine Road.Go.weaken (σ' := σ) m_3 (Nat.le_refl _) (Nat.le_refl _) ?_
  refine Road.iadd 6 bNwL_d6 ?_
  refine Road.nameI ?_
  intro z_5 hz_5
  obtain rfl : z_5 = (Nat.toInt32 (i + max g p)) := by rw [hz_5]; exact Road.add32n _ _
  refine Road.istoreN 7 #[.val (.int (Nat.toInt32 i)), .val (.int (Nat.toInt32 g)), .val (.int (Nat.toInt32 p)), .val (.int (Nat.toInt32 (i + max g p)))] bNwL_d7 rfl ?_
  refine Road.iconst 8 (0 : Int32) bNwL_d8 rfl ?_
  refine Road.iloadN 9 bNwL_d9 rfl ?_
  refine Road.icmp_ge 10 21 bNwL_d10 rfl (fun q => absurd q (by rw [Decidable.not_not, show (0 : Int32) = Nat.toInt32 0 from rfl, Road.lt32 (by omega) (by omega)]; exact hi)) (fun hc10 => ?_)
  refine Road.iloadN 13 bNwL_d13 rfl ?_
  refine Road.ldcI 14 bNwL_d14 (wI hw 184 rfl) ?_
  refine Road.icmp_gt 16 21 bNwL_d16 rfl (fun q => absurd q (by rw [show (2147483639 : Int32) = Nat.toInt32 2147483639 from rfl, Road.lt32 (by omega) (by omega)]; omega)) (fun hc16 => ?_)
  refine Road.iloadN 19 bNwL_d19 rfl ?_
  exact Road.iretI 20 bNwL_d20 rfl (by decide) (by decide) (fun σ' m => ⟨rfl, rfl⟩)
def bNwC : Road.Bdy := (⟨"java/lang/AbstractStringBuilder", "newCapacity", "(I)I"⟩, jdk_68_method_10_code, 6, (some .int), { frames := 2, cells := 0, slots := 0, locals := 29 })
theorem bNwC_d0 : decode bNwC.bs 0 = .ok (.aload_n 0, 1) := by decide +kernel
theorem bNwC_d1 : decode bNwC.bs 1 = .ok (.getfield 15, 3) := by decide +kernel
theorem bNwC_d4 : decode bNwC.bs 4 = .ok (.arraylength, 1) := by decide +kernel
theorem bNwC_d5 : decode bNwC.bs 5 = .ok (.istore_n 2, 1) := by decide +kernel
theorem bNwC_d6 : decode bNwC.bs 6 = .ok (.iload_n 1, 1) := by decide +kernel
theorem bNwC_d7 : decode bNwC.bs 7 = .ok (.aload_n 0, 1) := by decide +kernel
theorem bNwC_d8 : decode bNwC.bs 8 = .ok (.getfield 22, 3) := by decide +kernel
theorem bNwC_d11 : decode bNwC.bs 11 = .ok (.ishl, 1) := by decide +kernel
theorem bNwC_d12 : decode bNwC.bs 12 = .ok (.istore_n 3, 1) := by decide +kernel
theorem bNwC_d13 : decode bNwC.bs 13 = .ok (.iload_n 3, 1) := by decide +kernel
theorem bNwC_d14 : decode bNwC.bs 14 = .ok (.iload_n 2, 1) := by decide +kernel
theorem bNwC_d15 : decode bNwC.bs 15 = .ok (.isub, 1) := by decide +kernel
theorem bNwC_d16 : decode bNwC.bs 16 = .ok (.istore 4, 2) := by decide +kernel
theorem bNwC_d18 : decode bNwC.bs 18 = .ok (.iload_n 2, 1) := by decide +kernel
theorem bNwC_d19 : decode bNwC.bs 19 = .ok (.iload 4, 2) := by decide +kernel
theorem bNwC_d21 : decode bNwC.bs 21 = .ok (.iload_n 2, 1) := by decide +kernel
theorem bNwC_d22 : decode bNwC.bs 22 = .ok (.iconst 2, 1) := by decide +kernel
theorem bNwC_d23 : decode bNwC.bs 23 = .ok (.aload_n 0, 1) := by decide +kernel
theorem bNwC_d24 : decode bNwC.bs 24 = .ok (.getfield 22, 3) := by decide +kernel
theorem bNwC_d27 : decode bNwC.bs 27 = .ok (.ishl, 1) := by decide +kernel
theorem bNwC_d28 : decode bNwC.bs 28 = .ok (.iadd, 1) := by decide +kernel
theorem bNwC_d29 : decode bNwC.bs 29 = .ok (.invokestatic 114, 3) := by decide +kernel
theorem bNwC_d32 : decode bNwC.bs 32 = .ok (.istore 5, 2) := by decide +kernel
theorem bNwC_d34 : decode bNwC.bs 34 = .ok (.iload 5, 2) := by decide +kernel
theorem bNwC_d36 : decode bNwC.bs 36 = .ok (.ldc 39, 2) := by decide +kernel
theorem bNwC_d38 : decode bNwC.bs 38 = .ok (.if_icmp .ne 13, 3) := by decide +kernel
theorem bNwC_d41 : decode bNwC.bs 41 = .ok (.new 120, 3) := by decide +kernel
theorem bNwC_d44 : decode bNwC.bs 44 = .ok (.dup, 1) := by decide +kernel
theorem bNwC_d45 : decode bNwC.bs 45 = .ok (.ldc 122, 2) := by decide +kernel
theorem bNwC_d47 : decode bNwC.bs 47 = .ok (.invokespecial 124, 3) := by decide +kernel
theorem bNwC_d50 : decode bNwC.bs 50 = .ok (.athrow, 1) := by decide +kernel
theorem bNwC_d51 : decode bNwC.bs 51 = .ok (.iload 5, 2) := by decide +kernel
theorem bNwC_d53 : decode bNwC.bs 53 = .ok (.aload_n 0, 1) := by decide +kernel
theorem bNwC_d54 : decode bNwC.bs 54 = .ok (.getfield 22, 3) := by decide +kernel
theorem bNwC_d57 : decode bNwC.bs 57 = .ok (.ishr, 1) := by decide +kernel
theorem bNwC_d58 : decode bNwC.bs 58 = .ok (.ireturn, 1) := by decide +kernel
theorem bNwC_pd : parseMethodDescriptor "(I)I" = some ⟨[.int], (some .int)⟩ := by decide +kernel
theorem bNwC_pn : plainFor bNwC.y = true := plainFor_of_name (show plainName "java/lang/AbstractStringBuilder" = true from by first | (simp [plainName, overriddenIn]; done) | decide +kernel)
theorem cNwC (l : Launch) (Z : State) (a0 : Array Value) (hw : ∀ d ∈ tables_1, d.before a0 Z = true) (n0 : Nat) (hEW : EW Z a0 consts_1) (q b : Addr) (cs : List Int32) (N : Nat) (m : Nat) (h0 : Heap) (σ : Addr → Prop) (S : Road.Sb Z h0 q b cs N) (hm : N < m) (hb : max m (2 * N + 2) ≤ 2147483639) :
    Road.Con l Z consts_1 n0 false bNwC [] σ #[(.ref q), (.int (Nat.toInt32 m))] h0 (fun v h2 _ => v = some (.int (Nat.toInt32 (max m (2 * N + 2)))) ∧ h0 = h2) := by
  have hN := S.small
  have hle := S.le
  obtain ⟨E, Fc, Fv, Fn, ⟨r, Ab, hr⟩, hlt⟩ := S
  refine Road.Con.of bNwC_pn hEW #[.val (.ref q), .val (.int (Nat.toInt32 m)), .unset, .unset, .unset, .unset] (fun m => Road.ent (Road.laid1 rfl (Road.laid1 rfl Road.laid0)) (k := 4) rfl rfl) ?_
  intro D hD
  refine Road.aloadN 0 bNwC_d0 rfl ?_
  refine Road.getfield 1 bNwC_d1 (wI hw 148 rfl) Via.refl Fv ?_
  refine Road.alen 4 (Nat.toInt32 N) bNwC_d4 Ab (n := N) (by rw [List.length_append, List.length_map]; exact hr) rfl ?_
  refine Road.istoreN 5 #[.val (.ref q), .val (.int (Nat.toInt32 m)), .val (.int (Nat.toInt32 N)), .unset, .unset, .unset] bNwC_d5 rfl ?_
  refine Road.iloadN 6 bNwC_d6 rfl ?_
  refine Road.aloadN 7 bNwC_d7 rfl ?_
  refine Road.getfield 8 bNwC_d8 (wI hw 150 rfl) Via.refl Fc ?_
  refine Road.ishl 11 bNwC_d11 ?_
  refine Road.nameI ?_
  intro z_1 hz_1
  obtain rfl : z_1 = (Nat.toInt32 m) := by rw [hz_1]; exact Road.shl0 _
  refine Road.istoreN 12 #[.val (.ref q), .val (.int (Nat.toInt32 m)), .val (.int (Nat.toInt32 N)), .val (.int (Nat.toInt32 m)), .unset, .unset] bNwC_d12 rfl ?_
  refine Road.iloadN 13 bNwC_d13 rfl ?_
  refine Road.iloadN 14 bNwC_d14 rfl ?_
  refine Road.isub 15 bNwC_d15 ?_
  refine Road.nameI ?_
  intro z_2 hz_2
  obtain rfl : z_2 = (Nat.toInt32 (m - N)) := by rw [hz_2]; exact Road.sub32n (by omega)
  refine Road.istore 16 #[.val (.ref q), .val (.int (Nat.toInt32 m)), .val (.int (Nat.toInt32 N)), .val (.int (Nat.toInt32 m)), .val (.int (Nat.toInt32 (m - N))), .unset] bNwC_d16 rfl ?_
  refine Road.iloadN 18 bNwC_d18 rfl ?_
  refine Road.iload 19 bNwC_d19 rfl ?_
  refine Road.iloadN 21 bNwC_d21 rfl ?_
  refine Road.iconst 22 (2 : Int32) bNwC_d22 rfl ?_
  refine Road.aloadN 23 bNwC_d23 rfl ?_
  refine Road.getfield 24 bNwC_d24 (wI hw 150 rfl) Via.refl Fc ?_
  refine Road.ishl 27 bNwC_d27 ?_
  refine Road.nameI ?_
  intro z_3 hz_3
  obtain rfl : z_3 = (2 : Int32) := by rw [hz_3]; exact Road.shl0 _
  refine Road.iadd 28 bNwC_d28 ?_
  refine Road.nameI ?_
  intro z_4 hz_4
  obtain rfl : z_4 = (Nat.toInt32 (N + 2)) := by rw [hz_4]; exact Road.add32n N 2
  refine Road.callS (B' := bNwL) 29 (argsL := [(.int (Nat.toInt32 N)), (.int (Nat.toInt32 (m - N))), (.int (Nat.toInt32 (N + 2)))]) (rest := []) 0 bNwC_d29 (wI hw 176 rfl) (wI hw 177 rfl) (wI hw 178 rfl) (wI hw 179 rfl) (by decide) (cNwL l Z a0 hw n0 hEW N (m - N) (N + 2) h0 σ (by omega) (by omega)) (lenOf bNwL_pd rfl) rfl rfl rfl (by decide) (by decide) (ce' := 0) (sl' := 0) rfl rfl (by decide) (by decide) ?_
  rintro _ h_5 σ_6 m_7 ⟨rfl, rfl⟩
  refine Road.Go.weaken (σ' := σ) m_7 (Nat.le_refl _) (Nat.le_refl _) ?_
  refine Road.nameI ?_
  intro z_9 hz_9
  obtain rfl : z_9 = (Nat.toInt32 (max m (2 * N + 2))) := by rw [hz_9]; congr 1; omega
  refine Road.istore 32 #[.val (.ref q), .val (.int (Nat.toInt32 m)), .val (.int (Nat.toInt32 N)), .val (.int (Nat.toInt32 m)), .val (.int (Nat.toInt32 (m - N))), .val (.int (Nat.toInt32 (max m (2 * N + 2))))] bNwC_d32 rfl ?_
  refine Road.iload 34 bNwC_d34 rfl ?_
  refine Road.ldcI 36 bNwC_d36 (wI hw 185 rfl) ?_
  refine Road.icmp_ne 38 51 bNwC_d38 rfl (fun hc38 => ?_) (fun q => absurd q (by rw [show (2147483647 : Int32) = Nat.toInt32 2147483647 from rfl, Road.eq32 (by omega) (by omega)]; omega))
  refine Road.iload 51 bNwC_d51 rfl ?_
  refine Road.aloadN 53 bNwC_d53 rfl ?_
  refine Road.getfield 54 bNwC_d54 (wI hw 150 rfl) Via.refl Fc ?_
  refine Road.ishr 57 bNwC_d57 ?_
  exact Road.iretI 58 bNwC_d58 rfl (by decide) (by decide) (fun σ' m => ⟨by rw [Road.shr0], rfl⟩)
def bEnG : Road.Bdy := (⟨"java/lang/AbstractStringBuilder", "ensureCapacityInternal", "(I)V"⟩, jdk_68_method_9_code, 3, none, { frames := 3, cells := 1, slots := 70, locals := 48 })
theorem bEnG_pd : parseMethodDescriptor "(I)V" = some ⟨[.int], none⟩ := by decide +kernel
theorem bEnG_pn : plainFor bEnG.y = true := plainFor_of_name (show plainName "java/lang/AbstractStringBuilder" = true from by first | (simp [plainName, overriddenIn]; done) | decide +kernel)
theorem cEnG (l : Launch) (Z : State) (a0 : Array Value) (hw : ∀ d ∈ tables_1, d.before a0 Z = true) (n0 : Nat) (hEW : EW Z a0 consts_1) (q b : Addr) (cs : List Int32) (N : Nat) (m : Nat) (h0 : Heap) (σ : Addr → Prop) (S : Road.Sb Z h0 q b cs N) (hm : N < m) (hcap : max m (2 * N + 2) ≤ 70) (sq : σ q) :
    Road.Con l Z consts_1 n0 false bEnG [] σ #[(.ref q), (.int (Nat.toInt32 m))] h0 (fun v h2 s2 => v = none ∧ Keep h0 h2 [q] ∧ ∃ d, Road.Sb Z h2 q d cs (max m (2 * N + 2)) ∧ h0.size ≤ d ∧ s2 d ∧ Exa Z h2 d "[B") := by
  have S0 := S
  have hN := S.small
  have hle := S.le
  obtain ⟨E, Fc, Fv, Fn, ⟨r, Ab, hr⟩, hlt⟩ := S
  have nqb : q ≠ b := by obtain ⟨c, Ar, -⟩ := Ab; exact ne_arr E (wI hw 135 rfl) Ar
  refine Road.Con.of bEnG_pn hEW #[.val (.ref q), .val (.int (Nat.toInt32 m)), .unset] (fun m => Road.ent (Road.laid1 rfl (Road.laid1 rfl Road.laid0)) (k := 1) rfl rfl) ?_
  intro D hD
  refine Road.aloadN 0 bEn0_d0 rfl ?_
  refine Road.getfield 1 bEn0_d1 (wI hw 148 rfl) Via.refl Fv ?_
  refine Road.alen 4 (Nat.toInt32 N) bEn0_d4 Ab (n := N) (by rw [List.length_append, List.length_map]; exact hr) rfl ?_
  refine Road.aloadN 5 bEn0_d5 rfl ?_
  refine Road.getfield 6 bEn0_d6 (wI hw 150 rfl) Via.refl Fc ?_
  refine Road.ishr 9 bEn0_d9 ?_
  refine Road.nameI ?_
  intro z_1 hz_1
  obtain rfl : z_1 = (Nat.toInt32 N) := by rw [hz_1]; exact Road.shr0 _
  refine Road.istoreN 10 #[.val (.ref q), .val (.int (Nat.toInt32 m)), .val (.int (Nat.toInt32 N))] bEn0_d10 rfl ?_
  refine Road.iloadN 11 bEn0_d11 rfl ?_
  refine Road.iloadN 12 bEn0_d12 rfl ?_
  refine Road.isub 13 bEn0_d13 ?_
  refine Road.if_le 14 38 bEn0_d14 rfl (fun q => absurd q (by rw [Decidable.not_not, Road.gsub (by omega) hN]; omega)) (fun hc14 => ?_)
  refine Road.aloadN 17 bEn0_d17 rfl ?_
  refine Road.aloadN 18 bEn0_d18 rfl ?_
  refine Road.getfield 19 bEn0_d19 (wI hw 148 rfl) Via.refl Fv ?_
  refine Road.aloadN 22 bEn0_d22 rfl ?_
  refine Road.iloadN 23 bEn0_d23 rfl ?_
  refine Road.callP (B' := bNwC) (a := q) 24 (argsL := [(.int (Nat.toInt32 m))]) (rest := [(.ref b), (.ref q)]) "java/lang/StringBuilder" 2 bEn0_d24 (wI hw 171 rfl) (wI hw 173 rfl) (wI hw 174 rfl) (wI hw 172 rfl) (wI hw 144 rfl) (wI hw 175 rfl) (by decide) E (cNwC l Z a0 hw n0 hEW q b cs N m h0 σ S0 hm (by omega)) (lenOf bNwC_pd rfl) rfl rfl rfl (by decide) (by decide) (ce' := 0) (sl' := 0) rfl rfl (by decide) (by decide) ?_
  rintro _ h_2 σ_3 m_4 ⟨rfl, rfl⟩
  refine Road.Go.weaken (σ' := σ) m_4 (Nat.le_refl _) (Nat.le_refl _) ?_
  refine Road.aloadN 27 bEn0_d27 rfl ?_
  refine Road.getfield 28 bEn0_d28 (wI hw 150 rfl) Via.refl Fc ?_
  refine Road.ishl 31 bEn0_d31 ?_
  refine Road.nameI ?_
  intro z_6 hz_6
  obtain rfl : z_6 = (Nat.toInt32 (max m (2 * N + 2))) := by rw [hz_6]; exact Road.shl0 _
  refine Road.callS (B' := bCpO) 32 (argsL := [(.ref b), (.int (Nat.toInt32 (max m (2 * N + 2))))]) (rest := [(.ref q)]) 1 bEn0_d32 (wI hw 186 rfl) (wI hw 187 rfl) (wI hw 188 rfl) (wI hw 189 rfl) (by decide) (cCpO l Z a0 hw n0 hEW b _ (max m (2 * N + 2)) h0 σ Ab (by rw [List.length_append, List.length_map]; omega) (by omega)) (lenOf bCpO_pd rfl) rfl rfl rfl (by decide) (by decide) (ce' := 1) (sl' := 70) rfl rfl (by decide) (by decide) ?_
  rintro _ h_7 σ_8 m_9 ⟨d, rfl, gd, K_10, sd, Ad, ED⟩
  have ne_q_d : q ≠ d := Nat.ne_of_lt (Nat.lt_of_lt_of_le E.lt gd)
  replace E := E.keep K_10
  replace Fc := Fc.keep K_10 nin0
  replace Fv := Fv.keep K_10 nin0
  replace Fn := Fn.keep K_10 nin0
  replace sq := m_9 _ sq
  refine Road.putfield 35 bEn0_d35 (wI hw 148 rfl) Via.refl Fv E (Or.inl (wI hw 149 rfl)) (wI hw 135 rfl) (ty := (.array .byte)) (by decide) rfl rfl sq ?_
  intro h_14 W_12 K_13
  replace Fv := Fv.same W_12
  replace Fc := Fc.other W_12 (Or.inr (slot_ne (Or.inl (wI hw 151 rfl)) (Or.inl (wI hw 149 rfl)) (by decide) (t := .byte) (by decide) (t' := (.array .byte)) (by decide)))
  replace Fn := Fn.other W_12 (Or.inr (slot_ne (Or.inl (wI hw 165 rfl)) (Or.inl (wI hw 149 rfl)) (by decide) (t := .int) (by decide) (t' := (.array .byte)) (by decide)))
  replace E := E.keep K_13
  replace Ad := Ad.keep K_13 (ninS (Ne.symm ne_q_d) nin0)
  replace ED := ED.keep K_13
  exact Road.ret 38 bEn0_d38 rfl (by decide) (by decide) (fun σ' m => ⟨rfl, (Road.keep_more K_10).trans K_13 (by simp), d, ⟨E, Fc, Fv, Fn, ⟨_, by rw [List.append_assoc] at Ad; exact Ad, by simp only [List.length_append, List.length_map, List.length_replicate]; omega⟩, hlt⟩, gd, m _ sd, ED⟩)
def bApG : Road.Bdy := (⟨"java/lang/AbstractStringBuilder", "append", "(Ljava/lang/String;)Ljava/lang/AbstractStringBuilder;"⟩, jdk_68_method_22_code, 3, (some (.object "java/lang/AbstractStringBuilder")), { frames := 4, cells := 1, slots := 70, locals := 63 })
theorem bApG_pd : parseMethodDescriptor "(Ljava/lang/String;)Ljava/lang/AbstractStringBuilder;" = some ⟨[(.object "java/lang/String")], (some (.object "java/lang/AbstractStringBuilder"))⟩ := by decide +kernel
theorem bApG_pn : plainFor bApG.y = true := plainFor_of_name (show plainName "java/lang/AbstractStringBuilder" = true from by first | (simp [plainName, overriddenIn]; done) | decide +kernel)
theorem cApG (l : Launch) (Z : State) (a0 : Array Value) (hw : ∀ d ∈ tables_1, d.before a0 Z = true) (n0 : Nat) (hEW : EW Z a0 consts_1) (q b : Addr) (cs : List Int32) (N : Nat) (s sb : Addr) (ds : List Int32) (h0 : Heap) (σ : Addr → Prop) (S : Road.Sb Z h0 q b cs N) (T : Road.Str Z h0 s sb ds) (hm : N < cs.length + ds.length) (hcap : max (cs.length + ds.length) (2 * N + 2) ≤ 70) (nsq : s ≠ q) (nbq : sb ≠ q) (sq : σ q) (cp : Int32) (Hc : Sta Z Z.heap Road.SN "COMPACT_STRINGS" "Z" (.int cp)) (hcp : ¬ cp = 0) :
    Road.Con l Z consts_1 n0 false bApG [] σ #[(.ref q), (.ref s)] h0 (fun v h2 s2 => v = some (.ref q) ∧ Keep h0 h2 [q] ∧ ∃ d, Road.Sb Z h2 q d (cs ++ ds) (max (cs.length + ds.length) (2 * N + 2)) ∧ h0.size ≤ d ∧ s2 d ∧ Exa Z h2 d "[B") := by
  have S0 := S
  have hN := S.small
  have hle := S.le
  obtain ⟨E, Fc, Fv, Fn, ⟨r, Ab, hr⟩, hlt⟩ := S
  have nqb : q ≠ b := by obtain ⟨c, Ar, -⟩ := Ab; exact ne_arr E (wI hw 135 rfl) Ar
  refine Road.Con.of bApG_pn hEW #[.val (.ref q), .val (.ref s), .unset] (fun m => Road.ent (Road.laid1 rfl (Road.laid1 rfl Road.laid0)) (k := 1) rfl rfl) ?_
  intro D hD
  refine Road.aloadN 0 bAp0_d0 rfl ?_
  refine Road.ifnonnull 1 9 rfl bAp0_d1 rfl (fun hc1 => ?_) (fun q => absurd q (by simp))
  refine Road.aloadN 9 bAp0_d9 rfl ?_
  refine Road.callV (B' := bLen) (a := s) 10 (argsL := []) (rest := []) "java/lang/String" 0 bAp0_d10 (wI hw 163 rfl) (wI hw 90 rfl) (fun vm hz => Road.notFace_sib (args := #[]) (mv (s := D.s.setVm vm) hz (wI hw 57 rfl)) rfl) (wI hw 92 rfl) (wI hw 91 rfl) (wI hw 5 rfl) (wI hw 93 rfl) (by decide) T.1 (cLen l Z a0 hw n0 hEW s sb ds h0 σ T cp Hc hcp) (lenOf bLen_pd rfl) rfl rfl rfl (by decide) (by decide) (ce' := 0) (sl' := 0) rfl rfl (by decide) (by decide) ?_
  rintro _ h_1 σ_2 m_3 ⟨rfl, rfl⟩
  refine Road.Go.weaken (σ' := σ) m_3 (Nat.le_refl _) (Nat.le_refl _) ?_
  refine Road.istoreN 13 #[.val (.ref q), .val (.ref s), .val (.int (Nat.toInt32 ds.length))] bAp0_d13 rfl ?_
  refine Road.aloadN 14 bAp0_d14 rfl ?_
  refine Road.aloadN 15 bAp0_d15 rfl ?_
  refine Road.getfield 16 bAp0_d16 (wI hw 164 rfl) Via.refl Fn ?_
  refine Road.iloadN 19 bAp0_d19 rfl ?_
  refine Road.iadd 20 bAp0_d20 ?_
  refine Road.nameI ?_
  intro z_5 hz_5
  obtain rfl : z_5 = (Nat.toInt32 (cs.length + ds.length)) := by rw [hz_5]; exact Road.add32n _ _
  refine Road.callP (B' := bEnG) (a := q) 21 (argsL := [(.int (Nat.toInt32 (cs.length + ds.length)))]) (rest := []) "java/lang/StringBuilder" 0 bAp0_d21 (wI hw 166 rfl) (wI hw 168 rfl) (wI hw 169 rfl) (wI hw 167 rfl) (wI hw 144 rfl) (wI hw 170 rfl) (by decide) E (cEnG l Z a0 hw n0 hEW q b cs N (cs.length + ds.length) h0 σ S0 hm hcap sq) (lenOf bEnG_pd rfl) rfl rfl rfl (by decide) (by decide) (ce' := 1) (sl' := 70) rfl rfl (by decide) (by decide) ?_
  rintro _ h_6 σ_7 m_8 ⟨rfl, K_9, d, S2, gd, sd, ED⟩
  replace T := T.keep K_9 (ninS nsq nin0) (ninS nbq nin0)
  replace sq := m_8 _ sq
  clear E Fc Fv Fn Ab
  have S3 := S2
  obtain ⟨E, Fc, Fv, Fn, ⟨r2, Ab, hr2⟩, -⟩ := S2
  have nqd : q ≠ d := by obtain ⟨c, Ar, -⟩ := Ab; exact ne_arr E (wI hw 135 rfl) Ar
  refine Road.aloadN 24 bAp0_d24 rfl ?_
  refine Road.aloadN 25 bAp0_d25 rfl ?_
  refine Road.getfield 26 bAp0_d26 (wI hw 164 rfl) Via.refl Fn ?_
  refine Road.aloadN 29 bAp0_d29 rfl ?_
  refine Road.callP (B' := bPut) (a := q) 30 (argsL := [(.int (Nat.toInt32 cs.length)), (.ref s)]) (rest := []) "java/lang/StringBuilder" 0 bAp0_d30 (wI hw 197 rfl) (wI hw 199 rfl) (wI hw 200 rfl) (wI hw 198 rfl) (wI hw 144 rfl) (wI hw 201 rfl) (by decide) E (cPut l Z a0 hw n0 hEW q d cs (max (cs.length + ds.length) (2 * N + 2)) s sb ds h_6 σ_7 S3 T (by omega) sd cp Hc hcp) (lenOf bPut_pd rfl) rfl rfl rfl (by decide) (by decide) (ce' := 1) (sl' := 70) rfl rfl (by decide) (by decide) ?_
  rintro _ h_11 σ_12 m_13 ⟨rfl, K_14, r3, A3, hr3⟩
  replace ED := ED.keep K_14
  replace E := E.keep K_14
  replace Fc := Fc.keep K_14 (ninS nqd nin0)
  replace Fv := Fv.keep K_14 (ninS nqd nin0)
  replace Fn := Fn.keep K_14 (ninS nqd nin0)
  replace sq := m_13 _ sq
  replace sd := m_13 _ sd
  refine Road.aloadN 33 bAp0_d33 rfl ?_
  refine Road.dup 34 bAp0_d34 ?_
  refine Road.getfield 35 bAp0_d35 (wI hw 164 rfl) Via.refl Fn ?_
  refine Road.iloadN 38 bAp0_d38 rfl ?_
  refine Road.iadd 39 bAp0_d39 ?_
  refine Road.nameI ?_
  intro z_17 hz_17
  obtain rfl : z_17 = (Nat.toInt32 (cs ++ ds).length) := by rw [hz_17]; rw [Road.add32n, List.length_append]
  refine Road.putfield 40 bAp0_d40 (wI hw 164 rfl) Via.refl Fn E (Or.inl (wI hw 165 rfl)) (wI hw 135 rfl) (ty := .int) (by decide) rfl rfl sq ?_
  intro h_20 W_18 K_19
  replace Fn := Fn.same W_18
  replace Fc := Fc.other W_18 (Or.inr (slot_ne (Or.inl (wI hw 151 rfl)) (Or.inl (wI hw 165 rfl)) (by decide) (t := .byte) (by decide) (t' := .int) (by decide)))
  replace Fv := Fv.other W_18 (Or.inr (slot_ne (Or.inl (wI hw 149 rfl)) (Or.inl (wI hw 165 rfl)) (by decide) (t := (.array .byte)) (by decide) (t' := .int) (by decide)))
  replace ED := ED.keep K_19
  replace E := E.keep K_19
  replace A3 := A3.keep K_19 (ninS (Ne.symm nqd) nin0)
  refine Road.aloadN 43 bAp0_d43 rfl ?_
  exact Road.aret 44 bAp0_d44 (t := (.object "java/lang/AbstractStringBuilder")) rfl rfl rfl (by decide) (by decide) (fun σ' m => ⟨rfl, (K_9.trans K_14 (by intro x hx; cases List.mem_singleton.mp hx; exact Or.inr gd)).trans K_19 (by simp), d, ⟨E, Fc, Fv, Fn, ⟨r3, A3, hr3⟩, (fun c hc => (List.mem_append.mp hc).elim (hlt c) (T.2.2.2.2 c))⟩, gd, m _ sd, ED⟩)
def bSpG : Road.Bdy := (⟨"java/lang/StringBuilder", "append", "(Ljava/lang/String;)Ljava/lang/StringBuilder;"⟩, jdk_67_method_7_code, 2, (some (.object "java/lang/StringBuilder")), { frames := 5, cells := 1, slots := 70, locals := 77 })
theorem bSpG_pd : parseMethodDescriptor "(Ljava/lang/String;)Ljava/lang/StringBuilder;" = some ⟨[(.object "java/lang/String")], (some (.object "java/lang/StringBuilder"))⟩ := by decide +kernel
theorem bSpG_pn : plainFor bSpG.y = true := plainFor_of_name (show plainName "java/lang/StringBuilder" = true from by first | (simp [plainName, overriddenIn]; done) | decide +kernel)
theorem cSpG (l : Launch) (Z : State) (a0 : Array Value) (hw : ∀ d ∈ tables_1, d.before a0 Z = true) (n0 : Nat) (hEW : EW Z a0 consts_1) (q b : Addr) (cs : List Int32) (N : Nat) (s sb : Addr) (ds : List Int32) (h0 : Heap) (σ : Addr → Prop) (S : Road.Sb Z h0 q b cs N) (T : Road.Str Z h0 s sb ds) (hm : N < cs.length + ds.length) (hcap : max (cs.length + ds.length) (2 * N + 2) ≤ 70) (nsq : s ≠ q) (nbq : sb ≠ q) (sq : σ q) (cp : Int32) (Hc : Sta Z Z.heap Road.SN "COMPACT_STRINGS" "Z" (.int cp)) (hcp : ¬ cp = 0) :
    Road.Con l Z consts_1 n0 false bSpG [] σ #[(.ref q), (.ref s)] h0 (fun v h2 s2 => v = some (.ref q) ∧ Keep h0 h2 [q] ∧ ∃ d, Road.Sb Z h2 q d (cs ++ ds) (max (cs.length + ds.length) (2 * N + 2)) ∧ h0.size ≤ d ∧ s2 d ∧ Exa Z h2 d "[B") := by
  refine Road.Con.of bSpG_pn hEW #[.val (.ref q), .val (.ref s)] (fun m => Road.ent (Road.laid1 rfl (Road.laid1 rfl Road.laid0)) (k := 0) rfl rfl) ?_
  intro D hD
  refine Road.aloadN 0 bSp0_d0 rfl ?_
  refine Road.aloadN 1 bSp0_d1 rfl ?_
  refine Road.callUp (B' := bApG) (a := q) 2 (argsL := [(.ref s)]) (rest := []) "java/lang/StringBuilder" 0 bSp0_d2 (wI hw 158 rfl) (Road.notFace_sib (wI hw 169 rfl) rfl) (wI hw 159 rfl) (wI hw 160 rfl) (wI hw 144 rfl) (wI hw 162 rfl) (by decide) (by decide) S.1 (cApG l Z a0 hw n0 hEW q b cs N s sb ds h0 σ S T hm hcap nsq nbq sq cp Hc hcp) (lenOf bApG_pd rfl) rfl rfl rfl (by decide) (by decide) (ce' := 1) (sl' := 70) rfl rfl (by decide) (by decide) ?_
  rintro _ h_1 σ_2 m_3 ⟨rfl, K_4, d, S2, gd, sd, ED⟩
  refine Road.pop 5 bSp0_d5 ?_
  refine Road.aloadN 6 bSp0_d6 rfl ?_
  exact Road.aret 7 bSp0_d7 (t := (.object "java/lang/StringBuilder")) rfl rfl rfl (by decide) (by decide) (fun σ' m => ⟨rfl, K_4, d, S2, gd, m _ sd, ED⟩)
def bSpX : Road.Bdy := (⟨"java/lang/StringBuilder", "append", "(Ljava/lang/String;)Ljava/lang/StringBuilder;"⟩, jdk_67_method_7_code, 2, (some (.object "java/lang/StringBuilder")), { frames := 5, cells := 1, slots := 70, locals := 77 })
theorem bSpX_pd : parseMethodDescriptor "(Ljava/lang/String;)Ljava/lang/StringBuilder;" = some ⟨[(.object "java/lang/String")], (some (.object "java/lang/StringBuilder"))⟩ := by decide +kernel
theorem bSpX_pn : plainFor bSpX.y = true := plainFor_of_name (show plainName "java/lang/StringBuilder" = true from by first | (simp [plainName, overriddenIn]; done) | decide +kernel)
theorem cSpX (l : Launch) (Z : State) (a0 : Array Value) (hw : ∀ d ∈ tables_1, d.before a0 Z = true) (n0 : Nat) (hEW : EW Z a0 consts_1) (q b : Addr) (cs : List Int32) (N : Nat) (s sb : Addr) (ds : List Int32) (h0 : Heap) (σ : Addr → Prop) (S : Road.Sb Z h0 q b cs N) (EB : Exa Z h0 b "[B") (T : Road.Str Z h0 s sb ds) (hcap : cs.length + ds.length ≤ N ∨ max (cs.length + ds.length) (2 * N + 2) ≤ 70) (nsq : s ≠ q) (nbq : sb ≠ q) (sb_ : σ b) (sq : σ q) (cp : Int32) (Hc : Sta Z Z.heap Road.SN "COMPACT_STRINGS" "Z" (.int cp)) (hcp : ¬ cp = 0) :
    Road.Con l Z consts_1 n0 false bSpX [] σ #[(.ref q), (.ref s)] h0 (fun v h2 s2 => v = some (.ref q) ∧ Keep h0 h2 [q, b] ∧ ∃ d N', Road.Sb Z h2 q d (cs ++ ds) N' ∧ (d = b ∨ h0.size ≤ d) ∧ (cs.length + ds.length ≤ N ∧ N' = N ∨ N < cs.length + ds.length ∧ N' = max (cs.length + ds.length) (2 * N + 2)) ∧ s2 d ∧ Exa Z h2 d "[B") := by
  refine Road.Con.of bSpX_pn hEW #[.val (.ref q), .val (.ref s)] (fun m => Road.ent (Road.laid1 rfl (Road.laid1 rfl Road.laid0)) (k := 0) rfl rfl) ?_
  intro D hD
  refine Road.aloadN 0 bSp0_d0 rfl ?_
  refine Road.aloadN 1 bSp0_d1 rfl ?_
  by_cases hm : cs.length + ds.length ≤ N
  · skip
    refine Road.callUp (B' := bAp0) (a := q) 2 (argsL := [(.ref s)]) (rest := []) "java/lang/StringBuilder" 0 bSp0_d2 (wI hw 158 rfl) (Road.notFace_sib (wI hw 169 rfl) rfl) (wI hw 159 rfl) (wI hw 160 rfl) (wI hw 144 rfl) (wI hw 162 rfl) (by decide) (by decide) S.1 (cAp0 l Z a0 hw n0 hEW q b cs N s sb ds h0 σ S T hm sb_ sq cp Hc hcp) (lenOf bAp0_pd rfl) rfl rfl rfl (by decide) (by decide) (ce' := 0) (sl' := 0) rfl rfl (by decide) (by decide) ?_
    rintro _ h_1 σ_2 m_3 ⟨rfl, K_4, S2⟩
    replace EB := EB.keep K_4
    refine Road.pop 5 bSp0_d5 ?_
    refine Road.aloadN 6 bSp0_d6 rfl ?_
    exact Road.aret 7 bSp0_d7 (t := (.object "java/lang/StringBuilder")) rfl rfl rfl (by decide) (by decide) (fun σ' m => ⟨rfl, K_4, b, N, S2, Or.inl rfl, Or.inl ⟨hm, rfl⟩, m _ (m_3 _ sb_), EB⟩)
  · skip
    refine Road.callUp (B' := bApG) (a := q) 2 (argsL := [(.ref s)]) (rest := []) "java/lang/StringBuilder" 0 bSp0_d2 (wI hw 158 rfl) (Road.notFace_sib (wI hw 169 rfl) rfl) (wI hw 159 rfl) (wI hw 160 rfl) (wI hw 144 rfl) (wI hw 162 rfl) (by decide) (by decide) S.1 (cApG l Z a0 hw n0 hEW q b cs N s sb ds h0 σ S T (by omega) (by omega) nsq nbq sq cp Hc hcp) (lenOf bApG_pd rfl) rfl rfl rfl (by decide) (by decide) (ce' := 1) (sl' := 70) rfl rfl (by decide) (by decide) ?_
    rintro _ h_5 σ_6 m_7 ⟨rfl, K_8, d, S2, gd, sd, ED⟩
    refine Road.pop 5 bSp0_d5 ?_
    refine Road.aloadN 6 bSp0_d6 rfl ?_
    exact Road.aret 7 bSp0_d7 (t := (.object "java/lang/StringBuilder")) rfl rfl rfl (by decide) (by decide) (fun σ' m => ⟨rfl, Road.keep_sub K_8 (by simp), d, _, S2, Or.inr gd, Or.inr ⟨by omega, rfl⟩, m _ sd, ED⟩)
def bAbL : Road.Bdy := (⟨"java/lang/AbstractStringBuilder", "isLatin1", "()Z"⟩, jdk_68_method_68_code, 1, (some .boolean), { frames := 0, cells := 0, slots := 0, locals := 0 })
theorem bAbL_d0 : decode bAbL.bs 0 = .ok (.getstatic 18, 3) := by decide +kernel
theorem bAbL_d3 : decode bAbL.bs 3 = .ok (.ifCond .eq 14, 3) := by decide +kernel
theorem bAbL_d6 : decode bAbL.bs 6 = .ok (.aload_n 0, 1) := by decide +kernel
theorem bAbL_d7 : decode bAbL.bs 7 = .ok (.getfield 22, 3) := by decide +kernel
theorem bAbL_d10 : decode bAbL.bs 10 = .ok (.ifCond .ne 7, 3) := by decide +kernel
theorem bAbL_d13 : decode bAbL.bs 13 = .ok (.iconst 1, 1) := by decide +kernel
theorem bAbL_d14 : decode bAbL.bs 14 = .ok (.goto 4, 3) := by decide +kernel
theorem bAbL_d17 : decode bAbL.bs 17 = .ok (.iconst 0, 1) := by decide +kernel
theorem bAbL_d18 : decode bAbL.bs 18 = .ok (.ireturn, 1) := by decide +kernel
theorem bAbL_pd : parseMethodDescriptor "()Z" = some ⟨[], (some .boolean)⟩ := by decide +kernel
theorem bAbL_pn : plainFor bAbL.y = true := plainFor_of_name (show plainName "java/lang/AbstractStringBuilder" = true from by first | (simp [plainName, overriddenIn]; done) | decide +kernel)
theorem cAbL (l : Launch) (Z : State) (a0 : Array Value) (hw : ∀ d ∈ tables_1, d.before a0 Z = true) (n0 : Nat) (hEW : EW Z a0 consts_1) (q : Addr) (h0 : Heap) (σ : Addr → Prop) (Fc : Fld Z h0 q Road.AB "coder" "B" (.int 0)) (cp : Int32) (Hc : Sta Z Z.heap Road.SN "COMPACT_STRINGS" "Z" (.int cp)) (hcp : ¬ cp = 0) :
    Road.Con l Z consts_1 n0 false bAbL [] σ #[(.ref q)] h0 (fun v h2 _ => v = some (.int 1) ∧ h0 = h2) := by
  refine Road.Con.of bAbL_pn hEW #[.val (.ref q)] (fun m => Road.ent (Road.laid1 rfl Road.laid0) (k := 0) rfl rfl) ?_
  intro D hD
  refine Road.getstatic 0 bAbL_d0 (wI hw 147 rfl) Via.refl Hc ?_
  refine Road.if_eq 3 17 bAbL_d3 rfl (fun q => absurd q hcp) (fun hc3 => ?_)
  refine Road.aloadN 6 bAbL_d6 rfl ?_
  refine Road.getfield 7 bAbL_d7 (wI hw 150 rfl) Via.refl Fc ?_
  refine Road.if_ne 10 17 bAbL_d10 rfl (fun q => absurd q (by decide)) (fun hc10 => ?_)
  refine Road.iconst 13 (1 : Int32) bAbL_d13 rfl ?_
  refine Road.goto 14 18 bAbL_d14 rfl ?_
  exact Road.iret 18 1 bAbL_d18 (t := .boolean) rfl (by simp) rfl (by decide) (by decide) (fun σ' m => ⟨rfl, rfl⟩)
def bSz : Road.Bdy := (⟨"java/lang/Integer", "stringSize", "(I)I"⟩, jdk_33_method_13_code, 4, (some .int), { frames := 0, cells := 0, slots := 0, locals := 0 })
theorem bSz_d0 : decode bSz.bs 0 = .ok (.iconst 1, 1) := by decide +kernel
theorem bSz_d1 : decode bSz.bs 1 = .ok (.istore_n 1, 1) := by decide +kernel
theorem bSz_d2 : decode bSz.bs 2 = .ok (.iload_n 0, 1) := by decide +kernel
theorem bSz_d3 : decode bSz.bs 3 = .ok (.ifCond .lt 8, 3) := by decide +kernel
theorem bSz_d6 : decode bSz.bs 6 = .ok (.iconst 0, 1) := by decide +kernel
theorem bSz_d7 : decode bSz.bs 7 = .ok (.istore_n 1, 1) := by decide +kernel
theorem bSz_d8 : decode bSz.bs 8 = .ok (.iload_n 0, 1) := by decide +kernel
theorem bSz_d9 : decode bSz.bs 9 = .ok (.ineg, 1) := by decide +kernel
theorem bSz_d10 : decode bSz.bs 10 = .ok (.istore_n 0, 1) := by decide +kernel
theorem bSz_d11 : decode bSz.bs 11 = .ok (.bipush (-10), 2) := by decide +kernel
theorem bSz_d13 : decode bSz.bs 13 = .ok (.istore_n 2, 1) := by decide +kernel
theorem bSz_d14 : decode bSz.bs 14 = .ok (.iconst 1, 1) := by decide +kernel
theorem bSz_d15 : decode bSz.bs 15 = .ok (.istore_n 3, 1) := by decide +kernel
theorem bSz_d16 : decode bSz.bs 16 = .ok (.iload_n 3, 1) := by decide +kernel
theorem bSz_d17 : decode bSz.bs 17 = .ok (.bipush 10, 2) := by decide +kernel
theorem bSz_d19 : decode bSz.bs 19 = .ok (.if_icmp .ge 23, 3) := by decide +kernel
theorem bSz_d22 : decode bSz.bs 22 = .ok (.iload_n 0, 1) := by decide +kernel
theorem bSz_d23 : decode bSz.bs 23 = .ok (.iload_n 2, 1) := by decide +kernel
theorem bSz_d24 : decode bSz.bs 24 = .ok (.if_icmp .le 7, 3) := by decide +kernel
theorem bSz_d27 : decode bSz.bs 27 = .ok (.iload_n 3, 1) := by decide +kernel
theorem bSz_d28 : decode bSz.bs 28 = .ok (.iload_n 1, 1) := by decide +kernel
theorem bSz_d29 : decode bSz.bs 29 = .ok (.iadd, 1) := by decide +kernel
theorem bSz_d30 : decode bSz.bs 30 = .ok (.ireturn, 1) := by decide +kernel
theorem bSz_d31 : decode bSz.bs 31 = .ok (.bipush 10, 2) := by decide +kernel
theorem bSz_d33 : decode bSz.bs 33 = .ok (.iload_n 2, 1) := by decide +kernel
theorem bSz_d34 : decode bSz.bs 34 = .ok (.imul, 1) := by decide +kernel
theorem bSz_d35 : decode bSz.bs 35 = .ok (.istore_n 2, 1) := by decide +kernel
theorem bSz_d36 : decode bSz.bs 36 = .ok (.iinc 3 1, 3) := by decide +kernel
theorem bSz_d39 : decode bSz.bs 39 = .ok (.goto (-23), 3) := by decide +kernel
theorem bSz_d42 : decode bSz.bs 42 = .ok (.bipush 10, 2) := by decide +kernel
theorem bSz_d44 : decode bSz.bs 44 = .ok (.iload_n 1, 1) := by decide +kernel
theorem bSz_d45 : decode bSz.bs 45 = .ok (.iadd, 1) := by decide +kernel
theorem bSz_d46 : decode bSz.bs 46 = .ok (.ireturn, 1) := by decide +kernel
theorem bSz_pd : parseMethodDescriptor "(I)I" = some ⟨[.int], (some .int)⟩ := by decide +kernel
theorem bSz_pn : plainFor bSz.y = true := plainFor_of_name (show plainName "java/lang/Integer" = true from by first | (simp [plainName, overriddenIn]; done) | decide +kernel)
theorem cSz (l : Launch) (Z : State) (a0 : Array Value) (hw : ∀ d ∈ tables_1, d.before a0 Z = true) (n0 : Nat) (hEW : EW Z a0 consts_1) (x : Int32) (h0 : Heap) (σ : Addr → Prop)  :
    Road.Con l Z consts_1 n0 false bSz [] σ #[(.int x)] h0 (fun v h2 _ => v = some (.int (Nat.toInt32 (Road.dec x).length)) ∧ h0 = h2) := by
  refine Road.Con.of bSz_pn hEW #[.val (.int x), .unset, .unset, .unset] (fun m => Road.ent (Road.laid1 rfl Road.laid0) (k := 3) rfl rfl) ?_
  intro D hD
  have hmx := Road.nat_le x
  obtain ⟨m, hm⟩ : ∃ m, m = x.toInt.natAbs := ⟨_, rfl⟩
  rw [← hm] at hmx
  have tail : ∀ (y d : Int32) (dn : Nat), y.toInt = -(m : Int) → d = Nat.toInt32 dn → (Road.dec x).length = (Road.decN m).length + dn → Road.Go l Z a0 consts_1 n0 false bSz D (fun v h2 _ => v = some (.int (Nat.toInt32 (Road.dec x).length)) ∧ h0 = h2) h0 σ 0 0 11 #[.val (.int y), .val (.int d), .unset, .unset] [] := by
    intro y d dn hy hd hl
    refine Road.bipush 11 (-10 : Int32) bSz_d11 rfl ?_
    refine Road.istoreN 13 #[.val (.int y), .val (.int d), .val (.int (-10 : Int32)), .unset] bSz_d13 rfl ?_
    refine Road.iconst 14 (1 : Int32) bSz_d14 rfl ?_
    refine Road.istoreN 15 #[.val (.int y), .val (.int d), .val (.int (-10 : Int32)), .val (.int (1 : Int32))] bSz_d15 rfl ?_
    refine Road.iloadN 16 bSz_d16 rfl ?_
    refine Road.bipush 17 (10 : Int32) bSz_d17 rfl ?_
    refine Road.icmp_ge 19 42 bSz_d19 rfl (fun q => absurd q (by decide)) (fun hc19 => ?_)
    refine Road.iloadN 22 bSz_d22 rfl ?_
    refine Road.iloadN 23 bSz_d23 rfl ?_
    refine Road.icmp_le 24 31 bSz_d24 rfl (fun e1 => ?_) (fun e1 => ?_)
    · skip
      have g1 : 10 ^ 1 ≤ m := by rw [Int32.lt_iff_toInt_lt, hy, show ((-10) : Int32).toInt = -10 from rfl] at e1; omega
      refine Road.bipush 31 (10 : Int32) bSz_d31 rfl ?_
      refine Road.iloadN 33 bSz_d33 rfl ?_
      refine Road.imul 34 bSz_d34 ?_
      refine Road.nameI ?_
      intro z_1 hz_1
      obtain rfl : z_1 = (-100 : Int32) := by rw [hz_1]; decide
      refine Road.istoreN 35 #[.val (.int y), .val (.int d), .val (.int (-100 : Int32)), .val (.int (1 : Int32))] bSz_d35 rfl ?_
      refine Road.iinc 36 (1) #[.val (.int y), .val (.int d), .val (.int (-100 : Int32)), .val (.int ((1 : Int32) + 1))] bSz_d36 rfl rfl rfl ?_
      rw [show (1 : Int32) + 1 = 2 from by decide]
      refine Road.goto 39 16 bSz_d39 rfl ?_
      refine Road.iloadN 16 bSz_d16 rfl ?_
      refine Road.bipush 17 (10 : Int32) bSz_d17 rfl ?_
      refine Road.icmp_ge 19 42 bSz_d19 rfl (fun q => absurd q (by decide)) (fun hc19 => ?_)
      refine Road.iloadN 22 bSz_d22 rfl ?_
      refine Road.iloadN 23 bSz_d23 rfl ?_
      refine Road.icmp_le 24 31 bSz_d24 rfl (fun e2 => ?_) (fun e2 => ?_)
      · skip
        have g2 : 10 ^ 2 ≤ m := by rw [Int32.lt_iff_toInt_lt, hy, show ((-100) : Int32).toInt = -100 from rfl] at e2; omega
        refine Road.bipush 31 (10 : Int32) bSz_d31 rfl ?_
        refine Road.iloadN 33 bSz_d33 rfl ?_
        refine Road.imul 34 bSz_d34 ?_
        refine Road.nameI ?_
        intro z_2 hz_2
        obtain rfl : z_2 = (-1000 : Int32) := by rw [hz_2]; decide
        refine Road.istoreN 35 #[.val (.int y), .val (.int d), .val (.int (-1000 : Int32)), .val (.int (2 : Int32))] bSz_d35 rfl ?_
        refine Road.iinc 36 (1) #[.val (.int y), .val (.int d), .val (.int (-1000 : Int32)), .val (.int ((2 : Int32) + 1))] bSz_d36 rfl rfl rfl ?_
        rw [show (2 : Int32) + 1 = 3 from by decide]
        refine Road.goto 39 16 bSz_d39 rfl ?_
        refine Road.iloadN 16 bSz_d16 rfl ?_
        refine Road.bipush 17 (10 : Int32) bSz_d17 rfl ?_
        refine Road.icmp_ge 19 42 bSz_d19 rfl (fun q => absurd q (by decide)) (fun hc19 => ?_)
        refine Road.iloadN 22 bSz_d22 rfl ?_
        refine Road.iloadN 23 bSz_d23 rfl ?_
        refine Road.icmp_le 24 31 bSz_d24 rfl (fun e3 => ?_) (fun e3 => ?_)
        · skip
          have g3 : 10 ^ 3 ≤ m := by rw [Int32.lt_iff_toInt_lt, hy, show ((-1000) : Int32).toInt = -1000 from rfl] at e3; omega
          refine Road.bipush 31 (10 : Int32) bSz_d31 rfl ?_
          refine Road.iloadN 33 bSz_d33 rfl ?_
          refine Road.imul 34 bSz_d34 ?_
          refine Road.nameI ?_
          intro z_3 hz_3
          obtain rfl : z_3 = (-10000 : Int32) := by rw [hz_3]; decide
          refine Road.istoreN 35 #[.val (.int y), .val (.int d), .val (.int (-10000 : Int32)), .val (.int (3 : Int32))] bSz_d35 rfl ?_
          refine Road.iinc 36 (1) #[.val (.int y), .val (.int d), .val (.int (-10000 : Int32)), .val (.int ((3 : Int32) + 1))] bSz_d36 rfl rfl rfl ?_
          rw [show (3 : Int32) + 1 = 4 from by decide]
          refine Road.goto 39 16 bSz_d39 rfl ?_
          refine Road.iloadN 16 bSz_d16 rfl ?_
          refine Road.bipush 17 (10 : Int32) bSz_d17 rfl ?_
          refine Road.icmp_ge 19 42 bSz_d19 rfl (fun q => absurd q (by decide)) (fun hc19 => ?_)
          refine Road.iloadN 22 bSz_d22 rfl ?_
          refine Road.iloadN 23 bSz_d23 rfl ?_
          refine Road.icmp_le 24 31 bSz_d24 rfl (fun e4 => ?_) (fun e4 => ?_)
          · skip
            have g4 : 10 ^ 4 ≤ m := by rw [Int32.lt_iff_toInt_lt, hy, show ((-10000) : Int32).toInt = -10000 from rfl] at e4; omega
            refine Road.bipush 31 (10 : Int32) bSz_d31 rfl ?_
            refine Road.iloadN 33 bSz_d33 rfl ?_
            refine Road.imul 34 bSz_d34 ?_
            refine Road.nameI ?_
            intro z_4 hz_4
            obtain rfl : z_4 = (-100000 : Int32) := by rw [hz_4]; decide
            refine Road.istoreN 35 #[.val (.int y), .val (.int d), .val (.int (-100000 : Int32)), .val (.int (4 : Int32))] bSz_d35 rfl ?_
            refine Road.iinc 36 (1) #[.val (.int y), .val (.int d), .val (.int (-100000 : Int32)), .val (.int ((4 : Int32) + 1))] bSz_d36 rfl rfl rfl ?_
            rw [show (4 : Int32) + 1 = 5 from by decide]
            refine Road.goto 39 16 bSz_d39 rfl ?_
            refine Road.iloadN 16 bSz_d16 rfl ?_
            refine Road.bipush 17 (10 : Int32) bSz_d17 rfl ?_
            refine Road.icmp_ge 19 42 bSz_d19 rfl (fun q => absurd q (by decide)) (fun hc19 => ?_)
            refine Road.iloadN 22 bSz_d22 rfl ?_
            refine Road.iloadN 23 bSz_d23 rfl ?_
            refine Road.icmp_le 24 31 bSz_d24 rfl (fun e5 => ?_) (fun e5 => ?_)
            · skip
              have g5 : 10 ^ 5 ≤ m := by rw [Int32.lt_iff_toInt_lt, hy, show ((-100000) : Int32).toInt = -100000 from rfl] at e5; omega
              refine Road.bipush 31 (10 : Int32) bSz_d31 rfl ?_
              refine Road.iloadN 33 bSz_d33 rfl ?_
              refine Road.imul 34 bSz_d34 ?_
              refine Road.nameI ?_
              intro z_5 hz_5
              obtain rfl : z_5 = (-1000000 : Int32) := by rw [hz_5]; decide
              refine Road.istoreN 35 #[.val (.int y), .val (.int d), .val (.int (-1000000 : Int32)), .val (.int (5 : Int32))] bSz_d35 rfl ?_
              refine Road.iinc 36 (1) #[.val (.int y), .val (.int d), .val (.int (-1000000 : Int32)), .val (.int ((5 : Int32) + 1))] bSz_d36 rfl rfl rfl ?_
              rw [show (5 : Int32) + 1 = 6 from by decide]
              refine Road.goto 39 16 bSz_d39 rfl ?_
              refine Road.iloadN 16 bSz_d16 rfl ?_
              refine Road.bipush 17 (10 : Int32) bSz_d17 rfl ?_
              refine Road.icmp_ge 19 42 bSz_d19 rfl (fun q => absurd q (by decide)) (fun hc19 => ?_)
              refine Road.iloadN 22 bSz_d22 rfl ?_
              refine Road.iloadN 23 bSz_d23 rfl ?_
              refine Road.icmp_le 24 31 bSz_d24 rfl (fun e6 => ?_) (fun e6 => ?_)
              · skip
                have g6 : 10 ^ 6 ≤ m := by rw [Int32.lt_iff_toInt_lt, hy, show ((-1000000) : Int32).toInt = -1000000 from rfl] at e6; omega
                refine Road.bipush 31 (10 : Int32) bSz_d31 rfl ?_
                refine Road.iloadN 33 bSz_d33 rfl ?_
                refine Road.imul 34 bSz_d34 ?_
                refine Road.nameI ?_
                intro z_6 hz_6
                obtain rfl : z_6 = (-10000000 : Int32) := by rw [hz_6]; decide
                refine Road.istoreN 35 #[.val (.int y), .val (.int d), .val (.int (-10000000 : Int32)), .val (.int (6 : Int32))] bSz_d35 rfl ?_
                refine Road.iinc 36 (1) #[.val (.int y), .val (.int d), .val (.int (-10000000 : Int32)), .val (.int ((6 : Int32) + 1))] bSz_d36 rfl rfl rfl ?_
                rw [show (6 : Int32) + 1 = 7 from by decide]
                refine Road.goto 39 16 bSz_d39 rfl ?_
                refine Road.iloadN 16 bSz_d16 rfl ?_
                refine Road.bipush 17 (10 : Int32) bSz_d17 rfl ?_
                refine Road.icmp_ge 19 42 bSz_d19 rfl (fun q => absurd q (by decide)) (fun hc19 => ?_)
                refine Road.iloadN 22 bSz_d22 rfl ?_
                refine Road.iloadN 23 bSz_d23 rfl ?_
                refine Road.icmp_le 24 31 bSz_d24 rfl (fun e7 => ?_) (fun e7 => ?_)
                · skip
                  have g7 : 10 ^ 7 ≤ m := by rw [Int32.lt_iff_toInt_lt, hy, show ((-10000000) : Int32).toInt = -10000000 from rfl] at e7; omega
                  refine Road.bipush 31 (10 : Int32) bSz_d31 rfl ?_
                  refine Road.iloadN 33 bSz_d33 rfl ?_
                  refine Road.imul 34 bSz_d34 ?_
                  refine Road.nameI ?_
                  intro z_7 hz_7
                  obtain rfl : z_7 = (-100000000 : Int32) := by rw [hz_7]; decide
                  refine Road.istoreN 35 #[.val (.int y), .val (.int d), .val (.int (-100000000 : Int32)), .val (.int (7 : Int32))] bSz_d35 rfl ?_
                  refine Road.iinc 36 (1) #[.val (.int y), .val (.int d), .val (.int (-100000000 : Int32)), .val (.int ((7 : Int32) + 1))] bSz_d36 rfl rfl rfl ?_
                  rw [show (7 : Int32) + 1 = 8 from by decide]
                  refine Road.goto 39 16 bSz_d39 rfl ?_
                  refine Road.iloadN 16 bSz_d16 rfl ?_
                  refine Road.bipush 17 (10 : Int32) bSz_d17 rfl ?_
                  refine Road.icmp_ge 19 42 bSz_d19 rfl (fun q => absurd q (by decide)) (fun hc19 => ?_)
                  refine Road.iloadN 22 bSz_d22 rfl ?_
                  refine Road.iloadN 23 bSz_d23 rfl ?_
                  refine Road.icmp_le 24 31 bSz_d24 rfl (fun e8 => ?_) (fun e8 => ?_)
                  · skip
                    have g8 : 10 ^ 8 ≤ m := by rw [Int32.lt_iff_toInt_lt, hy, show ((-100000000) : Int32).toInt = -100000000 from rfl] at e8; omega
                    refine Road.bipush 31 (10 : Int32) bSz_d31 rfl ?_
                    refine Road.iloadN 33 bSz_d33 rfl ?_
                    refine Road.imul 34 bSz_d34 ?_
                    refine Road.nameI ?_
                    intro z_8 hz_8
                    obtain rfl : z_8 = (-1000000000 : Int32) := by rw [hz_8]; decide
                    refine Road.istoreN 35 #[.val (.int y), .val (.int d), .val (.int (-1000000000 : Int32)), .val (.int (8 : Int32))] bSz_d35 rfl ?_
                    refine Road.iinc 36 (1) #[.val (.int y), .val (.int d), .val (.int (-1000000000 : Int32)), .val (.int ((8 : Int32) + 1))] bSz_d36 rfl rfl rfl ?_
                    rw [show (8 : Int32) + 1 = 9 from by decide]
                    refine Road.goto 39 16 bSz_d39 rfl ?_
                    refine Road.iloadN 16 bSz_d16 rfl ?_
                    refine Road.bipush 17 (10 : Int32) bSz_d17 rfl ?_
                    refine Road.icmp_ge 19 42 bSz_d19 rfl (fun q => absurd q (by decide)) (fun hc19 => ?_)
                    refine Road.iloadN 22 bSz_d22 rfl ?_
                    refine Road.iloadN 23 bSz_d23 rfl ?_
                    refine Road.icmp_le 24 31 bSz_d24 rfl (fun e9 => ?_) (fun e9 => ?_)
                    · skip
                      have g9 : 10 ^ 9 ≤ m := by rw [Int32.lt_iff_toInt_lt, hy, show ((-1000000000) : Int32).toInt = -1000000000 from rfl] at e9; omega
                      refine Road.bipush 31 (10 : Int32) bSz_d31 rfl ?_
                      refine Road.iloadN 33 bSz_d33 rfl ?_
                      refine Road.imul 34 bSz_d34 ?_
                      refine Road.nameI ?_
                      intro z_9 hz_9
                      obtain rfl : z_9 = (-1410065408 : Int32) := by rw [hz_9]; decide
                      refine Road.istoreN 35 #[.val (.int y), .val (.int d), .val (.int (-1410065408 : Int32)), .val (.int (9 : Int32))] bSz_d35 rfl ?_
                      refine Road.iinc 36 (1) #[.val (.int y), .val (.int d), .val (.int (-1410065408 : Int32)), .val (.int ((9 : Int32) + 1))] bSz_d36 rfl rfl rfl ?_
                      rw [show (9 : Int32) + 1 = 10 from by decide]
                      refine Road.goto 39 16 bSz_d39 rfl ?_
                      refine Road.iloadN 16 bSz_d16 rfl ?_
                      refine Road.bipush 17 (10 : Int32) bSz_d17 rfl ?_
                      refine Road.icmp_ge 19 42 bSz_d19 rfl (fun hc19 => ?_) (fun q => absurd q (by decide))
                      refine Road.bipush 42 (10 : Int32) bSz_d42 rfl ?_
                      refine Road.iloadN 44 bSz_d44 rfl ?_
                      have hlen := Road.decN_len 9 m (by omega) (Or.inr g9)
                      refine Road.iadd 45 bSz_d45 ?_
                      exact Road.iretI 46 bSz_d46 rfl (by decide) (by decide) (fun σ' m => ⟨by rw [hl, hlen, hd, ← Road.add32n]; rfl, rfl⟩)
                    · skip
                      have q9 : m < 10 ^ 9 := by rw [Int32.lt_iff_toInt_lt, hy, show ((-1000000000) : Int32).toInt = -1000000000 from rfl] at e9; omega
                      have hlen := Road.decN_len 8 m q9 (Or.inr g8)
                      refine Road.iloadN 27 bSz_d27 rfl ?_
                      refine Road.iloadN 28 bSz_d28 rfl ?_
                      refine Road.iadd 29 bSz_d29 ?_
                      exact Road.iretI 30 bSz_d30 rfl (by decide) (by decide) (fun σ' m => ⟨by rw [hl, hlen, hd, ← Road.add32n]; rfl, rfl⟩)
                  · skip
                    have q8 : m < 10 ^ 8 := by rw [Int32.lt_iff_toInt_lt, hy, show ((-100000000) : Int32).toInt = -100000000 from rfl] at e8; omega
                    have hlen := Road.decN_len 7 m q8 (Or.inr g7)
                    refine Road.iloadN 27 bSz_d27 rfl ?_
                    refine Road.iloadN 28 bSz_d28 rfl ?_
                    refine Road.iadd 29 bSz_d29 ?_
                    exact Road.iretI 30 bSz_d30 rfl (by decide) (by decide) (fun σ' m => ⟨by rw [hl, hlen, hd, ← Road.add32n]; rfl, rfl⟩)
                · skip
                  have q7 : m < 10 ^ 7 := by rw [Int32.lt_iff_toInt_lt, hy, show ((-10000000) : Int32).toInt = -10000000 from rfl] at e7; omega
                  have hlen := Road.decN_len 6 m q7 (Or.inr g6)
                  refine Road.iloadN 27 bSz_d27 rfl ?_
                  refine Road.iloadN 28 bSz_d28 rfl ?_
                  refine Road.iadd 29 bSz_d29 ?_
                  exact Road.iretI 30 bSz_d30 rfl (by decide) (by decide) (fun σ' m => ⟨by rw [hl, hlen, hd, ← Road.add32n]; rfl, rfl⟩)
              · skip
                have q6 : m < 10 ^ 6 := by rw [Int32.lt_iff_toInt_lt, hy, show ((-1000000) : Int32).toInt = -1000000 from rfl] at e6; omega
                have hlen := Road.decN_len 5 m q6 (Or.inr g5)
                refine Road.iloadN 27 bSz_d27 rfl ?_
                refine Road.iloadN 28 bSz_d28 rfl ?_
                refine Road.iadd 29 bSz_d29 ?_
                exact Road.iretI 30 bSz_d30 rfl (by decide) (by decide) (fun σ' m => ⟨by rw [hl, hlen, hd, ← Road.add32n]; rfl, rfl⟩)
            · skip
              have q5 : m < 10 ^ 5 := by rw [Int32.lt_iff_toInt_lt, hy, show ((-100000) : Int32).toInt = -100000 from rfl] at e5; omega
              have hlen := Road.decN_len 4 m q5 (Or.inr g4)
              refine Road.iloadN 27 bSz_d27 rfl ?_
              refine Road.iloadN 28 bSz_d28 rfl ?_
              refine Road.iadd 29 bSz_d29 ?_
              exact Road.iretI 30 bSz_d30 rfl (by decide) (by decide) (fun σ' m => ⟨by rw [hl, hlen, hd, ← Road.add32n]; rfl, rfl⟩)
          · skip
            have q4 : m < 10 ^ 4 := by rw [Int32.lt_iff_toInt_lt, hy, show ((-10000) : Int32).toInt = -10000 from rfl] at e4; omega
            have hlen := Road.decN_len 3 m q4 (Or.inr g3)
            refine Road.iloadN 27 bSz_d27 rfl ?_
            refine Road.iloadN 28 bSz_d28 rfl ?_
            refine Road.iadd 29 bSz_d29 ?_
            exact Road.iretI 30 bSz_d30 rfl (by decide) (by decide) (fun σ' m => ⟨by rw [hl, hlen, hd, ← Road.add32n]; rfl, rfl⟩)
        · skip
          have q3 : m < 10 ^ 3 := by rw [Int32.lt_iff_toInt_lt, hy, show ((-1000) : Int32).toInt = -1000 from rfl] at e3; omega
          have hlen := Road.decN_len 2 m q3 (Or.inr g2)
          refine Road.iloadN 27 bSz_d27 rfl ?_
          refine Road.iloadN 28 bSz_d28 rfl ?_
          refine Road.iadd 29 bSz_d29 ?_
          exact Road.iretI 30 bSz_d30 rfl (by decide) (by decide) (fun σ' m => ⟨by rw [hl, hlen, hd, ← Road.add32n]; rfl, rfl⟩)
      · skip
        have q2 : m < 10 ^ 2 := by rw [Int32.lt_iff_toInt_lt, hy, show ((-100) : Int32).toInt = -100 from rfl] at e2; omega
        have hlen := Road.decN_len 1 m q2 (Or.inr g1)
        refine Road.iloadN 27 bSz_d27 rfl ?_
        refine Road.iloadN 28 bSz_d28 rfl ?_
        refine Road.iadd 29 bSz_d29 ?_
        exact Road.iretI 30 bSz_d30 rfl (by decide) (by decide) (fun σ' m => ⟨by rw [hl, hlen, hd, ← Road.add32n]; rfl, rfl⟩)
    · skip
      have q1 : m < 10 ^ 1 := by rw [Int32.lt_iff_toInt_lt, hy, show ((-10) : Int32).toInt = -10 from rfl] at e1; omega
      have hlen := Road.decN_len 0 m q1 (Or.inl rfl)
      refine Road.iloadN 27 bSz_d27 rfl ?_
      refine Road.iloadN 28 bSz_d28 rfl ?_
      refine Road.iadd 29 bSz_d29 ?_
      exact Road.iretI 30 bSz_d30 rfl (by decide) (by decide) (fun σ' m => ⟨by rw [hl, hlen, hd, ← Road.add32n]; rfl, rfl⟩)
  refine Road.iconst 0 (1 : Int32) bSz_d0 rfl ?_
  refine Road.istoreN 1 #[.val (.int x), .val (.int (1 : Int32)), .unset, .unset] bSz_d1 rfl ?_
  refine Road.iloadN 2 bSz_d2 rfl ?_
  refine Road.if_lt 3 11 bSz_d3 rfl (fun hc3 => ?_) (fun hc3 => ?_)
  · skip
    rw [Road.lt0] at hc3
    exact tail x 1 1 (by omega) rfl (by unfold Road.dec; rw [if_pos hc3, ← hm]; rfl)
  · skip
    rw [Road.lt0] at hc3
    refine Road.iconst 6 (0 : Int32) bSz_d6 rfl ?_
    refine Road.istoreN 7 #[.val (.int x), .val (.int (0 : Int32)), .unset, .unset] bSz_d7 rfl ?_
    refine Road.iloadN 8 bSz_d8 rfl ?_
    refine Road.ineg 9 bSz_d9 ?_
    refine Road.istoreN 10 #[.val (.int (-x)), .val (.int (0 : Int32)), .unset, .unset] bSz_d10 rfl ?_
    exact tail (-x) 0 0 (by rw [Road.neg_nat (by omega)]; omega) rfl (by unfold Road.dec; rw [if_neg hc3, ← hm]; rfl)
def bGch : Road.Bdy := (⟨"java/lang/Integer", "getChars", "(II[B)I"⟩, jdk_33_method_12_code, 7, (some .int), { frames := 0, cells := 0, slots := 0, locals := 0 })
theorem bGch_d0 : decode bGch.bs 0 = .ok (.iload_n 1, 1) := by decide +kernel
theorem bGch_d1 : decode bGch.bs 1 = .ok (.istore 5, 2) := by decide +kernel
theorem bGch_d3 : decode bGch.bs 3 = .ok (.iload_n 0, 1) := by decide +kernel
theorem bGch_d4 : decode bGch.bs 4 = .ok (.ifCond .ge 7, 3) := by decide +kernel
theorem bGch_d7 : decode bGch.bs 7 = .ok (.iconst 1, 1) := by decide +kernel
theorem bGch_d8 : decode bGch.bs 8 = .ok (.goto 4, 3) := by decide +kernel
theorem bGch_d11 : decode bGch.bs 11 = .ok (.iconst 0, 1) := by decide +kernel
theorem bGch_d12 : decode bGch.bs 12 = .ok (.istore 6, 2) := by decide +kernel
theorem bGch_d14 : decode bGch.bs 14 = .ok (.iload 6, 2) := by decide +kernel
theorem bGch_d16 : decode bGch.bs 16 = .ok (.ifCond .ne 6, 3) := by decide +kernel
theorem bGch_d19 : decode bGch.bs 19 = .ok (.iload_n 0, 1) := by decide +kernel
theorem bGch_d20 : decode bGch.bs 20 = .ok (.ineg, 1) := by decide +kernel
theorem bGch_d21 : decode bGch.bs 21 = .ok (.istore_n 0, 1) := by decide +kernel
theorem bGch_d22 : decode bGch.bs 22 = .ok (.iload_n 0, 1) := by decide +kernel
theorem bGch_d23 : decode bGch.bs 23 = .ok (.bipush (-100), 2) := by decide +kernel
theorem bGch_d25 : decode bGch.bs 25 = .ok (.if_icmp .gt 47, 3) := by decide +kernel
theorem bGch_d28 : decode bGch.bs 28 = .ok (.iload_n 0, 1) := by decide +kernel
theorem bGch_d29 : decode bGch.bs 29 = .ok (.bipush 100, 2) := by decide +kernel
theorem bGch_d31 : decode bGch.bs 31 = .ok (.idiv, 1) := by decide +kernel
theorem bGch_d32 : decode bGch.bs 32 = .ok (.istore_n 3, 1) := by decide +kernel
theorem bGch_d33 : decode bGch.bs 33 = .ok (.iload_n 3, 1) := by decide +kernel
theorem bGch_d34 : decode bGch.bs 34 = .ok (.bipush 100, 2) := by decide +kernel
theorem bGch_d36 : decode bGch.bs 36 = .ok (.imul, 1) := by decide +kernel
theorem bGch_d37 : decode bGch.bs 37 = .ok (.iload_n 0, 1) := by decide +kernel
theorem bGch_d38 : decode bGch.bs 38 = .ok (.isub, 1) := by decide +kernel
theorem bGch_d39 : decode bGch.bs 39 = .ok (.istore 4, 2) := by decide +kernel
theorem bGch_d41 : decode bGch.bs 41 = .ok (.iload_n 3, 1) := by decide +kernel
theorem bGch_d42 : decode bGch.bs 42 = .ok (.istore_n 0, 1) := by decide +kernel
theorem bGch_d43 : decode bGch.bs 43 = .ok (.aload_n 2, 1) := by decide +kernel
theorem bGch_d44 : decode bGch.bs 44 = .ok (.iinc 5 (-1), 3) := by decide +kernel
theorem bGch_d47 : decode bGch.bs 47 = .ok (.iload 5, 2) := by decide +kernel
theorem bGch_d49 : decode bGch.bs 49 = .ok (.getstatic 83, 3) := by decide +kernel
theorem bGch_d52 : decode bGch.bs 52 = .ok (.iload 4, 2) := by decide +kernel
theorem bGch_d54 : decode bGch.bs 54 = .ok (.baload, 1) := by decide +kernel
theorem bGch_d55 : decode bGch.bs 55 = .ok (.bastore, 1) := by decide +kernel
theorem bGch_d56 : decode bGch.bs 56 = .ok (.aload_n 2, 1) := by decide +kernel
theorem bGch_d57 : decode bGch.bs 57 = .ok (.iinc 5 (-1), 3) := by decide +kernel
theorem bGch_d60 : decode bGch.bs 60 = .ok (.iload 5, 2) := by decide +kernel
theorem bGch_d62 : decode bGch.bs 62 = .ok (.getstatic 87, 3) := by decide +kernel
theorem bGch_d65 : decode bGch.bs 65 = .ok (.iload 4, 2) := by decide +kernel
theorem bGch_d67 : decode bGch.bs 67 = .ok (.baload, 1) := by decide +kernel
theorem bGch_d68 : decode bGch.bs 68 = .ok (.bastore, 1) := by decide +kernel
theorem bGch_d69 : decode bGch.bs 69 = .ok (.goto (-47), 3) := by decide +kernel
theorem bGch_d72 : decode bGch.bs 72 = .ok (.aload_n 2, 1) := by decide +kernel
theorem bGch_d73 : decode bGch.bs 73 = .ok (.iinc 5 (-1), 3) := by decide +kernel
theorem bGch_d76 : decode bGch.bs 76 = .ok (.iload 5, 2) := by decide +kernel
theorem bGch_d78 : decode bGch.bs 78 = .ok (.getstatic 83, 3) := by decide +kernel
theorem bGch_d81 : decode bGch.bs 81 = .ok (.iload_n 0, 1) := by decide +kernel
theorem bGch_d82 : decode bGch.bs 82 = .ok (.ineg, 1) := by decide +kernel
theorem bGch_d83 : decode bGch.bs 83 = .ok (.baload, 1) := by decide +kernel
theorem bGch_d84 : decode bGch.bs 84 = .ok (.bastore, 1) := by decide +kernel
theorem bGch_d85 : decode bGch.bs 85 = .ok (.iload_n 0, 1) := by decide +kernel
theorem bGch_d86 : decode bGch.bs 86 = .ok (.bipush (-9), 2) := by decide +kernel
theorem bGch_d88 : decode bGch.bs 88 = .ok (.if_icmp .ge 16, 3) := by decide +kernel
theorem bGch_d91 : decode bGch.bs 91 = .ok (.aload_n 2, 1) := by decide +kernel
theorem bGch_d92 : decode bGch.bs 92 = .ok (.iinc 5 (-1), 3) := by decide +kernel
theorem bGch_d95 : decode bGch.bs 95 = .ok (.iload 5, 2) := by decide +kernel
theorem bGch_d97 : decode bGch.bs 97 = .ok (.getstatic 87, 3) := by decide +kernel
theorem bGch_d100 : decode bGch.bs 100 = .ok (.iload_n 0, 1) := by decide +kernel
theorem bGch_d101 : decode bGch.bs 101 = .ok (.ineg, 1) := by decide +kernel
theorem bGch_d102 : decode bGch.bs 102 = .ok (.baload, 1) := by decide +kernel
theorem bGch_d103 : decode bGch.bs 103 = .ok (.bastore, 1) := by decide +kernel
theorem bGch_d104 : decode bGch.bs 104 = .ok (.iload 6, 2) := by decide +kernel
theorem bGch_d106 : decode bGch.bs 106 = .ok (.ifCond .eq 12, 3) := by decide +kernel
theorem bGch_d109 : decode bGch.bs 109 = .ok (.aload_n 2, 1) := by decide +kernel
theorem bGch_d110 : decode bGch.bs 110 = .ok (.iinc 5 (-1), 3) := by decide +kernel
theorem bGch_d113 : decode bGch.bs 113 = .ok (.iload 5, 2) := by decide +kernel
theorem bGch_d115 : decode bGch.bs 115 = .ok (.bipush 45, 2) := by decide +kernel
theorem bGch_d117 : decode bGch.bs 117 = .ok (.bastore, 1) := by decide +kernel
theorem bGch_d118 : decode bGch.bs 118 = .ok (.iload 5, 2) := by decide +kernel
theorem bGch_d120 : decode bGch.bs 120 = .ok (.ireturn, 1) := by decide +kernel
theorem bGch_pd : parseMethodDescriptor "(II[B)I" = some ⟨[.int, .int, (.array .byte)], (some .int)⟩ := by decide +kernel
theorem bGch_pn : plainFor bGch.y = true := plainFor_of_name (show plainName "java/lang/Integer" = true from by first | (simp [plainName, overriddenIn]; done) | decide +kernel)
theorem cGch (l : Launch) (Z : State) (a0 : Array Value) (hw : ∀ d ∈ tables_1, d.before a0 Z = true) (n0 : Nat) (hEW : EW Z a0 consts_1) (x : Int32) (d : Addr) (vd : List Value) (p : Nat) (h0 : Heap) (σ : Addr → Prop) (A : Road.Ary Z h0 d .byte vd) (hp : p + (Road.dec x).length ≤ vd.length) (sd : σ d) (o1 o2 : Addr) (HO : Sta Z Z.heap "java/lang/Integer" "DigitOnes" "[B" (.ref o1)) (AO : Road.Ary Z Z.heap o1 .byte Road.OnesL) (HT : Sta Z Z.heap "java/lang/Integer" "DigitTens" "[B" (.ref o2)) (AT : Road.Ary Z Z.heap o2 .byte Road.TensL) :
    Road.Con l Z consts_1 n0 false bGch [] σ #[(.int x), (.int (Nat.toInt32 (p + (Road.dec x).length))), (.ref d)] h0 (fun v h2 _ => v = some (.int (Nat.toInt32 p)) ∧ Keep h0 h2 [d] ∧ Road.Ary Z h2 d .byte (vd.take p ++ ((Road.dec x).map Road.byt ++ vd.drop (p + (Road.dec x).length)))) := by
  refine Road.Con.of bGch_pn hEW #[.val (.int x), .val (.int (Nat.toInt32 (p + (Road.dec x).length))), .val (.ref d), .unset, .unset, .unset, .unset] (fun m => Road.ent (Road.laid1 rfl (Road.laid1 rfl (Road.laid1 rfl Road.laid0))) (k := 4) rfl rfl) ?_
  intro D hD
  have hmx := Road.nat_le x
  have hsm := A.small
  obtain ⟨m0, hm0⟩ : ∃ m, m = x.toInt.natAbs := ⟨_, rfl⟩
  rw [← hm0] at hmx
  obtain ⟨ix, hix⟩ : ∃ i, i = Nat.toInt32 (p + (Road.dec x).length) := ⟨_, rfl⟩
  rw [← hix]
  have loop : ∀ (g : Int32) (p1 : Nat) (R1 : List Value), (∀ (h : Heap) (y : Int32) (w3 w4 : Slot), Keep h0 h [d] → Road.Ary Z h d .byte R1 → Road.Go l Z a0 consts_1 n0 false bGch D (fun v h2 _ => v = some (.int (Nat.toInt32 p)) ∧ Keep h0 h2 [d] ∧ Road.Ary Z h2 d .byte (vd.take p ++ ((Road.dec x).map Road.byt ++ vd.drop (p + (Road.dec x).length)))) h σ 0 0 104 #[.val (.int y), .val (.int ix), .val (.ref d), w3, w4, .val (.int (Nat.toInt32 p1)), .val (.int g)] []) → ∀ (m : Nat), m ≤ 2147483648 → ∀ (h : Heap) (y : Int32) (U T : List Value) (w3 w4 : Slot), Road.W1 w3 → Road.W1 w4 → y.toInt = -(m : Int) → Keep h0 h [d] → Road.Ary Z h d .byte (U ++ T) → U.length = p1 + (Road.decN m).length → U.take p1 ++ ((Road.decN m).map Road.byt ++ T) = R1 → Road.Go l Z a0 consts_1 n0 false bGch D (fun v h2 _ => v = some (.int (Nat.toInt32 p)) ∧ Keep h0 h2 [d] ∧ Road.Ary Z h2 d .byte (vd.take p ++ ((Road.dec x).map Road.byt ++ vd.drop (p + (Road.dec x).length)))) h σ 0 0 22 #[.val (.int y), .val (.int ix), .val (.ref d), w3, w4, .val (.int (Nat.toInt32 (p1 + (Road.decN m).length))), .val (.int g)] [] := by
    intro g p1 R1 hex m
    induction m using Nat.strongRecOn with
    | _ m ih =>
      intro hm h y U T w3 w4 hw3 hw4 hy KT A hU hR
      have hsm := A.small
      rw [List.length_append] at hsm
      refine Road.iloadN 22 bGch_d22 rfl ?_
      refine Road.bipush 23 (-100 : Int32) bGch_d23 rfl ?_
      refine Road.icmp_gt 25 72 bGch_d25 rfl (fun e25 => ?_) (fun e25 => ?_)
      · skip
        rw [Int32.lt_iff_toInt_lt, hy, show ((-100) : Int32).toInt = -100 from rfl] at e25
        by_cases h10 : m < 10
        · skip
          have hl1 : (Road.decN m).length = 1 := by rw [Road.decN_lt h10]; rfl
          rw [hl1] at hU ⊢
          refine Road.aloadN 72 bGch_d72 rfl ?_
          refine Road.iinc 73 (-1) #[.val (.int y), .val (.int ix), .val (.ref d), w3, w4, .val (.int ((Nat.toInt32 (p1 + 1)) + (-1))), .val (.int g)] bGch_d73 rfl rfl rfl ?_
          rw [Road.pred32]
          refine Road.iload 76 bGch_d76 rfl ?_
          refine Road.getstatic 78 bGch_d78 (wI hw 236 rfl) Via.refl HO ?_
          refine Road.iloadN 81 bGch_d81 rfl ?_
          refine Road.ineg 82 bGch_d82 ?_
          refine Road.Go.old ?_
          intro hO
          have KZ_1 := Road.keep_ext hO.2
          have AO' := AO.keep KZ_1 nin0
          refine Road.baload 83 m bGch_d83 AO' (Road.neg_int (by omega) hy) (by rw [Road.ones_at (by omega), Road.byt_dc (by omega)]) ?_
          refine Road.bastore 84 p1 (Road.dc (m % 10)) bGch_d84 A (Road.n32 (by omega)) (by rw [List.length_append]; omega) (Road.nar_dc (by omega)) sd ?_
          intro h_2 K_3 A_4
          replace KT := KT.trans K_3 (by intro z hz; simp only [List.mem_cons, List.not_mem_nil, or_false] at hz; rcases hz with rfl <;> first | (exact Or.inr (by assumption)) | (simp; done))
          replace A := A_4
          rw [Road.set_last U T _ p1 (by omega)] at A
          refine Road.iloadN 85 bGch_d85 rfl ?_
          refine Road.bipush 86 (-9 : Int32) bGch_d86 rfl ?_
          refine Road.icmp_ge 88 104 bGch_d88 rfl (fun hc88 => ?_) (fun q => absurd q (by rw [Int32.lt_iff_toInt_lt, hy, show ((-9) : Int32).toInt = -9 from rfl]; omega))
          rw [Road.decN_lt h10] at hR
          exact hex h_2 y w3 w4 KT (by rw [← hR]; rw [Nat.mod_eq_of_lt h10, ← Road.byt_dc h10] at A; exact A)
        · skip
          have hd2 : Road.decN m = [Road.dc (m / 10), Road.dc (m % 10)] := by rw [Road.decN_ge (by omega), Road.decN_lt (by omega)]; rfl
          have hl2 : (Road.decN m).length = 2 := by rw [hd2]; rfl
          rw [hl2] at hU ⊢
          rw [show p1 + 2 = p1 + 1 + 1 from rfl]
          refine Road.aloadN 72 bGch_d72 rfl ?_
          refine Road.iinc 73 (-1) #[.val (.int y), .val (.int ix), .val (.ref d), w3, w4, .val (.int ((Nat.toInt32 (p1 + 1 + 1)) + (-1))), .val (.int g)] bGch_d73 rfl rfl rfl ?_
          rw [Road.pred32]
          refine Road.iload 76 bGch_d76 rfl ?_
          refine Road.getstatic 78 bGch_d78 (wI hw 236 rfl) Via.refl HO ?_
          refine Road.iloadN 81 bGch_d81 rfl ?_
          refine Road.ineg 82 bGch_d82 ?_
          refine Road.Go.old ?_
          intro hO
          have KZ_5 := Road.keep_ext hO.2
          have AO' := AO.keep KZ_5 nin0
          refine Road.baload 83 m bGch_d83 AO' (Road.neg_int (by omega) hy) (by rw [Road.ones_at (by omega), Road.byt_dc (by omega)]) ?_
          refine Road.bastore 84 (p1 + 1) (Road.dc (m % 10)) bGch_d84 A (Road.n32 (by omega)) (by rw [List.length_append]; omega) (Road.nar_dc (by omega)) sd ?_
          intro h_6 K_7 A_8
          replace KT := KT.trans K_7 (by intro z hz; simp only [List.mem_cons, List.not_mem_nil, or_false] at hz; rcases hz with rfl <;> first | (exact Or.inr (by assumption)) | (simp; done))
          replace A := A_8
          rw [Road.set_last U T _ (p1 + 1) (by omega)] at A
          refine Road.iloadN 85 bGch_d85 rfl ?_
          refine Road.bipush 86 (-9 : Int32) bGch_d86 rfl ?_
          refine Road.icmp_ge 88 104 bGch_d88 rfl (fun q => absurd q (by rw [Decidable.not_not, Int32.lt_iff_toInt_lt, hy, show ((-9) : Int32).toInt = -9 from rfl]; omega)) (fun hc88 => ?_)
          have hU2 : (U.take (p1 + 1)).length = p1 + 1 := by rw [List.length_take]; omega
          refine Road.aloadN 91 bGch_d91 rfl ?_
          refine Road.iinc 92 (-1) #[.val (.int y), .val (.int ix), .val (.ref d), w3, w4, .val (.int ((Nat.toInt32 (p1 + 1)) + (-1))), .val (.int g)] bGch_d92 rfl rfl rfl ?_
          rw [Road.pred32]
          refine Road.iload 95 bGch_d95 rfl ?_
          refine Road.getstatic 97 bGch_d97 (wI hw 322 rfl) Via.refl HT ?_
          refine Road.iloadN 100 bGch_d100 rfl ?_
          refine Road.ineg 101 bGch_d101 ?_
          refine Road.Go.old ?_
          intro hO
          have KZ_9 := Road.keep_ext hO.2
          have AT' := AT.keep KZ_9 nin0
          refine Road.baload 102 m bGch_d102 AT' (Road.neg_int (by omega) hy) (by rw [Road.tens_at (by omega), Road.byt_dc (by omega)]) ?_
          refine Road.bastore 103 p1 (Road.dc (m / 10)) bGch_d103 A (Road.n32 (by omega)) (by rw [List.length_append]; omega) (Road.nar_dc (by omega)) sd ?_
          intro h_10 K_11 A_12
          replace KT := KT.trans K_11 (by intro z hz; simp only [List.mem_cons, List.not_mem_nil, or_false] at hz; rcases hz with rfl <;> first | (exact Or.inr (by assumption)) | (simp; done))
          replace A := A_12
          rw [Road.set_last (U.take (p1 + 1)) _ _ p1 (by omega)] at A
          rw [List.take_take, Nat.min_eq_left (by omega), ← Road.byt_dc (show m / 10 < 10 by omega), ← Road.byt_dc (show m % 10 < 10 by omega)] at A
          exact hex h_10 y w3 w4 KT (by rw [← hR, hd2]; exact A)
      · skip
        rw [Int32.lt_iff_toInt_lt, hy, show ((-100) : Int32).toInt = -100 from rfl] at e25
        have h100 := Road.decN_100 (show 100 ≤ m by omega)
        have hl3 : (Road.decN m).length = (Road.decN (m / 100)).length + 1 + 1 := by rw [h100, List.length_append]; rfl
        rw [hl3] at hU ⊢
        rw [show p1 + ((Road.decN (m / 100)).length + 1 + 1) = p1 + (Road.decN (m / 100)).length + 1 + 1 from by omega]
        refine Road.iloadN 28 bGch_d28 rfl ?_
        refine Road.bipush 29 (100 : Int32) bGch_d29 rfl ?_
        refine Road.idiv 31 bGch_d31 (by decide) ?_
        refine Road.nameI ?_
        intro qq hqq
        have hq : qq.toInt = -((m / 100 : Nat) : Int) := by rw [hqq]; exact Road.div100 hm hy
        refine Road.istoreN 32 #[.val (.int y), .val (.int ix), .val (.ref d), .val (.int qq), w4, .val (.int (Nat.toInt32 (p1 + (Road.decN (m / 100)).length + 1 + 1))), .val (.int g)] bGch_d32 (by rcases hw3 with rfl | ⟨x, rfl⟩ <;> rfl) ?_
        refine Road.iloadN 33 bGch_d33 rfl ?_
        refine Road.bipush 34 (100 : Int32) bGch_d34 rfl ?_
        refine Road.imul 36 bGch_d36 ?_
        refine Road.iloadN 37 bGch_d37 rfl ?_
        refine Road.isub 38 bGch_d38 ?_
        refine Road.nameI ?_
        intro rr hrr
        have hr : rr.toInt = ((m % 100 : Nat) : Int) := by rw [hrr, hqq]; exact Road.rem100 hm hy
        refine Road.istore 39 #[.val (.int y), .val (.int ix), .val (.ref d), .val (.int qq), .val (.int rr), .val (.int (Nat.toInt32 (p1 + (Road.decN (m / 100)).length + 1 + 1))), .val (.int g)] bGch_d39 (by rcases hw4 with rfl | ⟨x, rfl⟩ <;> rfl) ?_
        refine Road.iloadN 41 bGch_d41 rfl ?_
        refine Road.istoreN 42 #[.val (.int qq), .val (.int ix), .val (.ref d), .val (.int qq), .val (.int rr), .val (.int (Nat.toInt32 (p1 + (Road.decN (m / 100)).length + 1 + 1))), .val (.int g)] bGch_d42 rfl ?_
        refine Road.aloadN 43 bGch_d43 rfl ?_
        refine Road.iinc 44 (-1) #[.val (.int qq), .val (.int ix), .val (.ref d), .val (.int qq), .val (.int rr), .val (.int ((Nat.toInt32 (p1 + (Road.decN (m / 100)).length + 1 + 1)) + (-1))), .val (.int g)] bGch_d44 rfl rfl rfl ?_
        rw [Road.pred32]
        refine Road.iload 47 bGch_d47 rfl ?_
        refine Road.getstatic 49 bGch_d49 (wI hw 236 rfl) Via.refl HO ?_
        refine Road.iload 52 bGch_d52 rfl ?_
        refine Road.Go.old ?_
        intro hO
        have KZ_13 := Road.keep_ext hO.2
        have AO' := AO.keep KZ_13 nin0
        refine Road.baload 54 (m % 100) bGch_d54 AO' hr (by rw [Road.ones_at (by omega), Road.byt_dc (by omega)]) ?_
        refine Road.bastore 55 (p1 + (Road.decN (m / 100)).length + 1) (Road.dc (m % 100 % 10)) bGch_d55 A (Road.n32 (by omega)) (by rw [List.length_append]; omega) (Road.nar_dc (by omega)) sd ?_
        intro h_14 K_15 A_16
        replace KT := KT.trans K_15 (by intro z hz; simp only [List.mem_cons, List.not_mem_nil, or_false] at hz; rcases hz with rfl <;> first | (exact Or.inr (by assumption)) | (simp; done))
        replace A := A_16
        rw [Road.set_last U T _ (p1 + (Road.decN (m / 100)).length + 1) (by omega)] at A
        have hU2 : (U.take (p1 + (Road.decN (m / 100)).length + 1)).length = p1 + (Road.decN (m / 100)).length + 1 := by rw [List.length_take]; omega
        refine Road.aloadN 56 bGch_d56 rfl ?_
        refine Road.iinc 57 (-1) #[.val (.int qq), .val (.int ix), .val (.ref d), .val (.int qq), .val (.int rr), .val (.int ((Nat.toInt32 (p1 + (Road.decN (m / 100)).length + 1)) + (-1))), .val (.int g)] bGch_d57 rfl rfl rfl ?_
        rw [Road.pred32]
        refine Road.iload 60 bGch_d60 rfl ?_
        refine Road.getstatic 62 bGch_d62 (wI hw 322 rfl) Via.refl HT ?_
        refine Road.iload 65 bGch_d65 rfl ?_
        refine Road.Go.old ?_
        intro hO
        have KZ_17 := Road.keep_ext hO.2
        have AT' := AT.keep KZ_17 nin0
        refine Road.baload 67 (m % 100) bGch_d67 AT' hr (by rw [Road.tens_at (by omega), Road.byt_dc (by omega)]) ?_
        refine Road.bastore 68 (p1 + (Road.decN (m / 100)).length) (Road.dc (m % 100 / 10)) bGch_d68 A (Road.n32 (by omega)) (by rw [List.length_append]; omega) (Road.nar_dc (by omega)) sd ?_
        intro h_18 K_19 A_20
        replace KT := KT.trans K_19 (by intro z hz; simp only [List.mem_cons, List.not_mem_nil, or_false] at hz; rcases hz with rfl <;> first | (exact Or.inr (by assumption)) | (simp; done))
        replace A := A_20
        rw [Road.set_last (U.take (p1 + (Road.decN (m / 100)).length + 1)) _ _ (p1 + (Road.decN (m / 100)).length) (by omega)] at A
        rw [List.take_take, Nat.min_eq_left (by omega), ← Road.byt_dc (show m % 100 / 10 < 10 by omega), ← Road.byt_dc (show m % 100 % 10 < 10 by omega)] at A
        refine Road.goto 69 22 bGch_d69 rfl ?_
        exact ih (m / 100) (by omega) (by omega) h_18 qq _ _ _ _ (Or.inr ⟨_, rfl⟩) (Or.inr ⟨_, rfl⟩) hq KT A (by rw [List.length_take]; omega) (by rw [← hR, h100, List.take_take, Nat.min_eq_left (by omega), List.map_append, List.append_assoc]; rfl)
  refine Road.iloadN 0 bGch_d0 rfl ?_
  refine Road.istore 1 #[.val (.int x), .val (.int ix), .val (.ref d), .unset, .unset, .val (.int ix), .unset] bGch_d1 rfl ?_
  refine Road.iloadN 3 bGch_d3 rfl ?_
  refine Road.if_ge 4 11 bGch_d4 rfl (fun hc4 => ?_) (fun hc4 => ?_)
  · skip
    rw [Road.lt0] at hc4
    have hdx : Road.dec x = Road.decN m0 := by unfold Road.dec; rw [if_neg hc4, ← hm0]
    rw [hdx] at hp hix
    refine Road.iconst 11 (0 : Int32) bGch_d11 rfl ?_
    refine Road.istore 12 #[.val (.int x), .val (.int ix), .val (.ref d), .unset, .unset, .val (.int ix), .val (.int (0 : Int32))] bGch_d12 rfl ?_
    refine Road.iload 14 bGch_d14 rfl ?_
    refine Road.if_ne 16 22 bGch_d16 rfl (fun q => absurd q (by decide)) (fun hc16 => ?_)
    refine Road.iloadN 19 bGch_d19 rfl ?_
    refine Road.ineg 20 bGch_d20 ?_
    refine Road.istoreN 21 #[.val (.int (-x)), .val (.int ix), .val (.ref d), .unset, .unset, .val (.int ix), .val (.int (0 : Int32))] bGch_d21 rfl ?_
    have hix2 : ix = Nat.toInt32 (p + (Road.decN m0).length) := by rw [hix]
    have exit : ∀ (h : Heap) (y : Int32) (w3 w4 : Slot), Keep h0 h [d] → Road.Ary Z h d .byte (vd.take p ++ ((Road.decN m0).map Road.byt ++ vd.drop (p + (Road.decN m0).length))) → Road.Go l Z a0 consts_1 n0 false bGch D (fun v h2 _ => v = some (.int (Nat.toInt32 p)) ∧ Keep h0 h2 [d] ∧ Road.Ary Z h2 d .byte (vd.take p ++ ((Road.dec x).map Road.byt ++ vd.drop (p + (Road.dec x).length)))) h σ 0 0 104 #[.val (.int y), .val (.int ix), .val (.ref d), w3, w4, .val (.int (Nat.toInt32 p)), .val (.int (0 : Int32))] [] := by
      intro h y w3 w4 KT A
      refine Road.iload 104 bGch_d104 rfl ?_
      refine Road.if_eq 106 118 bGch_d106 rfl (fun hc106 => ?_) (fun q => absurd q (by decide))
      refine Road.iload 118 bGch_d118 rfl ?_
      exact Road.iretI 120 bGch_d120 rfl (by decide) (by decide) (fun σ' m => ⟨rfl, KT, by rw [hdx]; exact A⟩)
    have fin := loop (0 : Int32) p (vd.take p ++ ((Road.decN m0).map Road.byt ++ vd.drop (p + (Road.decN m0).length))) exit m0 hmx h0 (-x) (vd.take (p + (Road.decN m0).length)) (vd.drop (p + (Road.decN m0).length)) .unset .unset (Or.inl rfl) (Or.inl rfl) (by rw [Road.neg_nat (by omega)]; omega) (Keep.refl _ _) (by rw [List.take_append_drop]; exact A) (by rw [List.length_take]; omega) (by rw [List.take_take, Nat.min_eq_left (by omega)])
    rw [← hix2] at fin
    exact fin
  · skip
    rw [Road.lt0] at hc4
    have hdx : Road.dec x = 45 :: Road.decN m0 := by unfold Road.dec; rw [if_pos hc4, ← hm0]
    rw [hdx] at hp hix
    rw [List.length_cons] at hp hix
    refine Road.iconst 7 (1 : Int32) bGch_d7 rfl ?_
    refine Road.goto 8 12 bGch_d8 rfl ?_
    refine Road.istore 12 #[.val (.int x), .val (.int ix), .val (.ref d), .unset, .unset, .val (.int ix), .val (.int (1 : Int32))] bGch_d12 rfl ?_
    refine Road.iload 14 bGch_d14 rfl ?_
    refine Road.if_ne 16 22 bGch_d16 rfl (fun hc16 => ?_) (fun q => absurd q (by decide))
    have hix2 : ix = Nat.toInt32 ((p + 1) + (Road.decN m0).length) := by rw [hix]; congr 1; omega
    have exit : ∀ (h : Heap) (y : Int32) (w3 w4 : Slot), Keep h0 h [d] → Road.Ary Z h d .byte (vd.take (p + 1) ++ ((Road.decN m0).map Road.byt ++ vd.drop ((p + 1) + (Road.decN m0).length))) → Road.Go l Z a0 consts_1 n0 false bGch D (fun v h2 _ => v = some (.int (Nat.toInt32 p)) ∧ Keep h0 h2 [d] ∧ Road.Ary Z h2 d .byte (vd.take p ++ ((Road.dec x).map Road.byt ++ vd.drop (p + (Road.dec x).length)))) h σ 0 0 104 #[.val (.int y), .val (.int ix), .val (.ref d), w3, w4, .val (.int (Nat.toInt32 (p + 1))), .val (.int (1 : Int32))] [] := by
      intro h y w3 w4 KT A
      refine Road.iload 104 bGch_d104 rfl ?_
      refine Road.if_eq 106 118 bGch_d106 rfl (fun q => absurd q (by decide)) (fun hc106 => ?_)
      refine Road.aloadN 109 bGch_d109 rfl ?_
      refine Road.iinc 110 (-1) #[.val (.int y), .val (.int ix), .val (.ref d), w3, w4, .val (.int ((Nat.toInt32 (p + 1)) + (-1))), .val (.int (1 : Int32))] bGch_d110 rfl rfl rfl ?_
      rw [Road.pred32]
      refine Road.iload 113 bGch_d113 rfl ?_
      refine Road.bipush 115 (45 : Int32) bGch_d115 rfl ?_
      refine Road.bastore 117 p (45 : Int32) bGch_d117 A (Road.n32 (by omega)) (by rw [List.length_append, List.length_take]; omega) rfl sd ?_
      intro h_21 K_22 A_23
      replace KT := KT.trans K_22 (by intro z hz; simp only [List.mem_cons, List.not_mem_nil, or_false] at hz; rcases hz with rfl <;> first | (exact Or.inr (by assumption)) | (simp; done))
      replace A := A_23
      rw [Road.set_last (vd.take (p + 1)) _ _ p (by rw [List.length_take]; omega), List.take_take, Nat.min_eq_left (by omega)] at A
      refine Road.iload 118 bGch_d118 rfl ?_
      exact Road.iretI 120 bGch_d120 rfl (by decide) (by decide) (fun σ' m => ⟨rfl, KT, by rw [hdx, List.length_cons, show p + ((Road.decN m0).length + 1) = p + 1 + (Road.decN m0).length from by omega]; exact A⟩)
    have fin := loop (1 : Int32) (p + 1) (vd.take (p + 1) ++ ((Road.decN m0).map Road.byt ++ vd.drop ((p + 1) + (Road.decN m0).length))) exit m0 hmx h0 x (vd.take ((p + 1) + (Road.decN m0).length)) (vd.drop ((p + 1) + (Road.decN m0).length)) .unset .unset (Or.inl rfl) (Or.inl rfl) (by omega) (Keep.refl _ _) (by rw [List.take_append_drop]; exact A) (by rw [List.length_take]; omega) (by rw [List.take_take, Nat.min_eq_left (by omega)])
    rw [← hix2] at fin
    exact fin
def bAi0 : Road.Bdy := (⟨"java/lang/AbstractStringBuilder", "append", "(I)Ljava/lang/AbstractStringBuilder;"⟩, jdk_68_method_32_code, 4, (some (.object "java/lang/AbstractStringBuilder")), { frames := 1, cells := 0, slots := 0, locals := 18 })
theorem bAi0_d0 : decode bAi0.bs 0 = .ok (.aload_n 0, 1) := by decide +kernel
theorem bAi0_d1 : decode bAi0.bs 1 = .ok (.getfield 79, 3) := by decide +kernel
theorem bAi0_d4 : decode bAi0.bs 4 = .ok (.istore_n 2, 1) := by decide +kernel
theorem bAi0_d5 : decode bAi0.bs 5 = .ok (.iload_n 2, 1) := by decide +kernel
theorem bAi0_d6 : decode bAi0.bs 6 = .ok (.iload_n 1, 1) := by decide +kernel
theorem bAi0_d7 : decode bAi0.bs 7 = .ok (.invokestatic 245, 3) := by decide +kernel
theorem bAi0_d10 : decode bAi0.bs 10 = .ok (.iadd, 1) := by decide +kernel
theorem bAi0_d11 : decode bAi0.bs 11 = .ok (.istore_n 3, 1) := by decide +kernel
theorem bAi0_d12 : decode bAi0.bs 12 = .ok (.aload_n 0, 1) := by decide +kernel
theorem bAi0_d13 : decode bAi0.bs 13 = .ok (.iload_n 3, 1) := by decide +kernel
theorem bAi0_d14 : decode bAi0.bs 14 = .ok (.invokevirtual 100, 3) := by decide +kernel
theorem bAi0_d17 : decode bAi0.bs 17 = .ok (.aload_n 0, 1) := by decide +kernel
theorem bAi0_d18 : decode bAi0.bs 18 = .ok (.invokevirtual 83, 3) := by decide +kernel
theorem bAi0_d21 : decode bAi0.bs 21 = .ok (.ifCond .eq 16, 3) := by decide +kernel
theorem bAi0_d24 : decode bAi0.bs 24 = .ok (.iload_n 1, 1) := by decide +kernel
theorem bAi0_d25 : decode bAi0.bs 25 = .ok (.iload_n 3, 1) := by decide +kernel
theorem bAi0_d26 : decode bAi0.bs 26 = .ok (.aload_n 0, 1) := by decide +kernel
theorem bAi0_d27 : decode bAi0.bs 27 = .ok (.getfield 15, 3) := by decide +kernel
theorem bAi0_d30 : decode bAi0.bs 30 = .ok (.invokestatic 248, 3) := by decide +kernel
theorem bAi0_d33 : decode bAi0.bs 33 = .ok (.pop, 1) := by decide +kernel
theorem bAi0_d34 : decode bAi0.bs 34 = .ok (.goto 14, 3) := by decide +kernel
theorem bAi0_d37 : decode bAi0.bs 37 = .ok (.iload_n 1, 1) := by decide +kernel
theorem bAi0_d38 : decode bAi0.bs 38 = .ok (.iload_n 2, 1) := by decide +kernel
theorem bAi0_d39 : decode bAi0.bs 39 = .ok (.iload_n 3, 1) := by decide +kernel
theorem bAi0_d40 : decode bAi0.bs 40 = .ok (.aload_n 0, 1) := by decide +kernel
theorem bAi0_d41 : decode bAi0.bs 41 = .ok (.getfield 15, 3) := by decide +kernel
theorem bAi0_d44 : decode bAi0.bs 44 = .ok (.invokestatic 251, 3) := by decide +kernel
theorem bAi0_d47 : decode bAi0.bs 47 = .ok (.pop, 1) := by decide +kernel
theorem bAi0_d48 : decode bAi0.bs 48 = .ok (.aload_n 0, 1) := by decide +kernel
theorem bAi0_d49 : decode bAi0.bs 49 = .ok (.iload_n 3, 1) := by decide +kernel
theorem bAi0_d50 : decode bAi0.bs 50 = .ok (.putfield 79, 3) := by decide +kernel
theorem bAi0_d53 : decode bAi0.bs 53 = .ok (.aload_n 0, 1) := by decide +kernel
theorem bAi0_d54 : decode bAi0.bs 54 = .ok (.areturn, 1) := by decide +kernel
theorem bAi0_pd : parseMethodDescriptor "(I)Ljava/lang/AbstractStringBuilder;" = some ⟨[.int], (some (.object "java/lang/AbstractStringBuilder"))⟩ := by decide +kernel
theorem bAi0_pn : plainFor bAi0.y = true := plainFor_of_name (show plainName "java/lang/AbstractStringBuilder" = true from by first | (simp [plainName, overriddenIn]; done) | decide +kernel)
theorem cAi0 (l : Launch) (Z : State) (a0 : Array Value) (hw : ∀ d ∈ tables_1, d.before a0 Z = true) (n0 : Nat) (hEW : EW Z a0 consts_1) (q b : Addr) (cs : List Int32) (N : Nat) (x : Int32) (h0 : Heap) (σ : Addr → Prop) (S : Road.Sb Z h0 q b cs N) (hm : cs.length + (Road.dec x).length ≤ N) (sb_ : σ b) (sq : σ q) (cp : Int32) (Hc : Sta Z Z.heap Road.SN "COMPACT_STRINGS" "Z" (.int cp)) (hcp : ¬ cp = 0) (o1 o2 : Addr) (HO : Sta Z Z.heap "java/lang/Integer" "DigitOnes" "[B" (.ref o1)) (AO : Road.Ary Z Z.heap o1 .byte Road.OnesL) (HT : Sta Z Z.heap "java/lang/Integer" "DigitTens" "[B" (.ref o2)) (AT : Road.Ary Z Z.heap o2 .byte Road.TensL) :
    Road.Con l Z consts_1 n0 false bAi0 [] σ #[(.ref q), (.int x)] h0 (fun v h2 s2 => v = some (.ref q) ∧ Keep h0 h2 [q, b] ∧ Road.Sb Z h2 q b (cs ++ Road.dec x) N) := by
  have S0 := S
  have hN := S.small
  have hle := S.le
  obtain ⟨E, Fc, Fv, Fn, ⟨r, Ab, hr⟩, hlt⟩ := S
  have nqb : q ≠ b := by obtain ⟨c, Ar, -⟩ := Ab; exact ne_arr E (wI hw 135 rfl) Ar
  refine Road.Con.of bAi0_pn hEW #[.val (.ref q), .val (.int x), .unset, .unset] (fun m => Road.ent (Road.laid1 rfl (Road.laid1 rfl Road.laid0)) (k := 2) rfl rfl) ?_
  intro D hD
  refine Road.aloadN 0 bAi0_d0 rfl ?_
  refine Road.getfield 1 bAi0_d1 (wI hw 164 rfl) Via.refl Fn ?_
  refine Road.istoreN 4 #[.val (.ref q), .val (.int x), .val (.int (Nat.toInt32 cs.length)), .unset] bAi0_d4 rfl ?_
  refine Road.iloadN 5 bAi0_d5 rfl ?_
  refine Road.iloadN 6 bAi0_d6 rfl ?_
  refine Road.callS (B' := bSz) 7 (argsL := [(.int x)]) (rest := [(.int (Nat.toInt32 cs.length))]) 1 bAi0_d7 (wI hw 224 rfl) (wI hw 225 rfl) (wI hw 226 rfl) (wI hw 227 rfl) (by decide) (cSz l Z a0 hw n0 hEW x h0 σ) (lenOf bSz_pd rfl) rfl rfl rfl (by decide) (by decide) (ce' := 0) (sl' := 0) rfl rfl (by decide) (by decide) ?_
  rintro _ h_1 σ_2 m_3 ⟨rfl, rfl⟩
  refine Road.Go.weaken (σ' := σ) m_3 (Nat.le_refl _) (Nat.le_refl _) ?_
  refine Road.iadd 10 bAi0_d10 ?_
  refine Road.nameI ?_
  intro z_5 hz_5
  obtain rfl : z_5 = (Nat.toInt32 (cs.length + (Road.dec x).length)) := by rw [hz_5]; exact Road.add32n _ _
  refine Road.istoreN 11 #[.val (.ref q), .val (.int x), .val (.int (Nat.toInt32 cs.length)), .val (.int (Nat.toInt32 (cs.length + (Road.dec x).length)))] bAi0_d11 rfl ?_
  refine Road.aloadN 12 bAi0_d12 rfl ?_
  refine Road.iloadN 13 bAi0_d13 rfl ?_
  refine Road.callP (B' := bEn0) (a := q) 14 (argsL := [(.int (Nat.toInt32 (cs.length + (Road.dec x).length)))]) (rest := []) "java/lang/StringBuilder" 0 bAi0_d14 (wI hw 166 rfl) (wI hw 168 rfl) (wI hw 169 rfl) (wI hw 167 rfl) (wI hw 144 rfl) (wI hw 170 rfl) (by decide) E (cEn0 l Z a0 hw n0 hEW q b cs N (cs.length + (Road.dec x).length) h0 σ S0 hm) (lenOf bEn0_pd rfl) rfl rfl rfl (by decide) (by decide) (ce' := 0) (sl' := 0) rfl rfl (by decide) (by decide) ?_
  rintro _ h_6 σ_7 m_8 ⟨rfl, rfl⟩
  refine Road.Go.weaken (σ' := σ) m_8 (Nat.le_refl _) (Nat.le_refl _) ?_
  refine Road.aloadN 17 bAi0_d17 rfl ?_
  refine Road.callV (B' := bAbL) (a := q) 18 (argsL := []) (rest := []) "java/lang/StringBuilder" 0 bAi0_d18 (wI hw 228 rfl) (wI hw 229 rfl) (fun vm hz => Road.notFace_sib (args := #[]) (mv (s := D.s.setVm vm) hz (wI hw 169 rfl)) rfl) (wI hw 231 rfl) (wI hw 230 rfl) (wI hw 144 rfl) (wI hw 232 rfl) (by decide) E (cAbL l Z a0 hw n0 hEW q h0 σ Fc cp Hc hcp) (lenOf bAbL_pd rfl) rfl rfl rfl (by decide) (by decide) (ce' := 0) (sl' := 0) rfl rfl (by decide) (by decide) ?_
  rintro _ h_10 σ_11 m_12 ⟨rfl, rfl⟩
  refine Road.Go.weaken (σ' := σ) m_12 (Nat.le_refl _) (Nat.le_refl _) ?_
  refine Road.if_eq 21 37 bAi0_d21 rfl (fun q => absurd q (by decide)) (fun hc21 => ?_)
  refine Road.iloadN 24 bAi0_d24 rfl ?_
  refine Road.iloadN 25 bAi0_d25 rfl ?_
  refine Road.aloadN 26 bAi0_d26 rfl ?_
  refine Road.getfield 27 bAi0_d27 (wI hw 148 rfl) Via.refl Fv ?_
  refine Road.callS (B' := bGch) 30 (argsL := [(.int x), (.int (Nat.toInt32 (cs.length + (Road.dec x).length))), (.ref b)]) (rest := []) 0 bAi0_d30 (wI hw 233 rfl) (wI hw 234 rfl) (wI hw 226 rfl) (wI hw 235 rfl) (by decide) (cGch l Z a0 hw n0 hEW x b _ cs.length h0 σ Ab (by rw [List.length_append, List.length_map]; omega) sb_ o1 o2 HO AO HT AT) (lenOf bGch_pd rfl) rfl rfl rfl (by decide) (by decide) (ce' := 0) (sl' := 0) rfl rfl (by decide) (by decide) ?_
  rintro _ h_14 σ_15 m_16 ⟨rfl, K_17, A2⟩
  replace E := E.keep K_17
  replace Fc := Fc.keep K_17 (ninS nqb nin0)
  replace Fv := Fv.keep K_17 (ninS nqb nin0)
  replace Fn := Fn.keep K_17 (ninS nqb nin0)
  replace sq := m_16 _ sq
  replace sb_ := m_16 _ sb_
  rw [Road.put_wr _ _ _ (by omega)] at A2
  refine Road.pop 33 bAi0_d33 ?_
  refine Road.goto 34 48 bAi0_d34 rfl ?_
  refine Road.aloadN 48 bAi0_d48 rfl ?_
  refine Road.iloadN 49 bAi0_d49 rfl ?_
  refine Road.nameI ?_
  intro z_20 hz_20
  obtain rfl : z_20 = (Nat.toInt32 (cs ++ Road.dec x).length) := by rw [hz_20]; rw [List.length_append]
  refine Road.putfield 50 bAi0_d50 (wI hw 164 rfl) Via.refl Fn E (Or.inl (wI hw 165 rfl)) (wI hw 135 rfl) (ty := .int) (by decide) rfl rfl sq ?_
  intro h_23 W_21 K_22
  replace Fn := Fn.same W_21
  replace Fc := Fc.other W_21 (Or.inr (slot_ne (Or.inl (wI hw 151 rfl)) (Or.inl (wI hw 165 rfl)) (by decide) (t := .byte) (by decide) (t' := .int) (by decide)))
  replace Fv := Fv.other W_21 (Or.inr (slot_ne (Or.inl (wI hw 149 rfl)) (Or.inl (wI hw 165 rfl)) (by decide) (t := (.array .byte)) (by decide) (t' := .int) (by decide)))
  replace E := E.keep K_22
  replace A2 := A2.keep K_22 (ninS (Ne.symm nqb) nin0)
  refine Road.aloadN 53 bAi0_d53 rfl ?_
  exact Road.aret 54 bAi0_d54 (t := (.object "java/lang/AbstractStringBuilder")) rfl rfl rfl (by decide) (by decide) (fun σ' m => ⟨rfl, Road.keep2 K_17 K_22, ⟨E, Fc, Fv, Fn, ⟨_, A2, by rw [List.length_append, List.length_drop]; omega⟩, (fun c hc => (List.mem_append.mp hc).elim (hlt c) (Road.dec_lat x c))⟩⟩)
def bSi0 : Road.Bdy := (⟨"java/lang/StringBuilder", "append", "(I)Ljava/lang/StringBuilder;"⟩, jdk_67_method_15_code, 2, (some (.object "java/lang/StringBuilder")), { frames := 2, cells := 0, slots := 0, locals := 33 })
theorem bSi0_d0 : decode bSi0.bs 0 = .ok (.aload_n 0, 1) := by decide +kernel
theorem bSi0_d1 : decode bSi0.bs 1 = .ok (.iload_n 1, 1) := by decide +kernel
theorem bSi0_d2 : decode bSi0.bs 2 = .ok (.invokespecial 53, 3) := by decide +kernel
theorem bSi0_d5 : decode bSi0.bs 5 = .ok (.pop, 1) := by decide +kernel
theorem bSi0_d6 : decode bSi0.bs 6 = .ok (.aload_n 0, 1) := by decide +kernel
theorem bSi0_d7 : decode bSi0.bs 7 = .ok (.areturn, 1) := by decide +kernel
theorem bSi0_pd : parseMethodDescriptor "(I)Ljava/lang/StringBuilder;" = some ⟨[.int], (some (.object "java/lang/StringBuilder"))⟩ := by decide +kernel
theorem bSi0_pn : plainFor bSi0.y = true := plainFor_of_name (show plainName "java/lang/StringBuilder" = true from by first | (simp [plainName, overriddenIn]; done) | decide +kernel)
theorem cSi0 (l : Launch) (Z : State) (a0 : Array Value) (hw : ∀ d ∈ tables_1, d.before a0 Z = true) (n0 : Nat) (hEW : EW Z a0 consts_1) (q b : Addr) (cs : List Int32) (N : Nat) (x : Int32) (h0 : Heap) (σ : Addr → Prop) (S : Road.Sb Z h0 q b cs N) (hm : cs.length + (Road.dec x).length ≤ N) (sb_ : σ b) (sq : σ q) (cp : Int32) (Hc : Sta Z Z.heap Road.SN "COMPACT_STRINGS" "Z" (.int cp)) (hcp : ¬ cp = 0) (o1 o2 : Addr) (HO : Sta Z Z.heap "java/lang/Integer" "DigitOnes" "[B" (.ref o1)) (AO : Road.Ary Z Z.heap o1 .byte Road.OnesL) (HT : Sta Z Z.heap "java/lang/Integer" "DigitTens" "[B" (.ref o2)) (AT : Road.Ary Z Z.heap o2 .byte Road.TensL) :
    Road.Con l Z consts_1 n0 false bSi0 [] σ #[(.ref q), (.int x)] h0 (fun v h2 s2 => v = some (.ref q) ∧ Keep h0 h2 [q, b] ∧ Road.Sb Z h2 q b (cs ++ Road.dec x) N) := by
  refine Road.Con.of bSi0_pn hEW #[.val (.ref q), .val (.int x)] (fun m => Road.ent (Road.laid1 rfl (Road.laid1 rfl Road.laid0)) (k := 0) rfl rfl) ?_
  intro D hD
  refine Road.aloadN 0 bSi0_d0 rfl ?_
  refine Road.iloadN 1 bSi0_d1 rfl ?_
  refine Road.callUp (B' := bAi0) (a := q) 2 (argsL := [(.int x)]) (rest := []) "java/lang/StringBuilder" 0 bSi0_d2 (wI hw 220 rfl) (Road.notFace_sib (wI hw 169 rfl) rfl) (wI hw 221 rfl) (wI hw 160 rfl) (wI hw 144 rfl) (wI hw 223 rfl) (by decide) (by decide) S.1 (cAi0 l Z a0 hw n0 hEW q b cs N x h0 σ S hm sb_ sq cp Hc hcp o1 o2 HO AO HT AT) (lenOf bAi0_pd rfl) rfl rfl rfl (by decide) (by decide) (ce' := 0) (sl' := 0) rfl rfl (by decide) (by decide) ?_
  rintro _ h_1 σ_2 m_3 ⟨rfl, K_4, S2⟩
  refine Road.pop 5 bSi0_d5 ?_
  refine Road.aloadN 6 bSi0_d6 rfl ?_
  exact Road.aret 7 bSi0_d7 (t := (.object "java/lang/StringBuilder")) rfl rfl rfl (by decide) (by decide) (fun σ' m => ⟨rfl, K_4, S2⟩)
def bAiG : Road.Bdy := (⟨"java/lang/AbstractStringBuilder", "append", "(I)Ljava/lang/AbstractStringBuilder;"⟩, jdk_68_method_32_code, 4, (some (.object "java/lang/AbstractStringBuilder")), { frames := 4, cells := 1, slots := 70, locals := 62 })
theorem bAiG_pd : parseMethodDescriptor "(I)Ljava/lang/AbstractStringBuilder;" = some ⟨[.int], (some (.object "java/lang/AbstractStringBuilder"))⟩ := by decide +kernel
theorem bAiG_pn : plainFor bAiG.y = true := plainFor_of_name (show plainName "java/lang/AbstractStringBuilder" = true from by first | (simp [plainName, overriddenIn]; done) | decide +kernel)
theorem cAiG (l : Launch) (Z : State) (a0 : Array Value) (hw : ∀ d ∈ tables_1, d.before a0 Z = true) (n0 : Nat) (hEW : EW Z a0 consts_1) (q b : Addr) (cs : List Int32) (N : Nat) (x : Int32) (h0 : Heap) (σ : Addr → Prop) (S : Road.Sb Z h0 q b cs N) (hm : N < cs.length + (Road.dec x).length) (hcap : max (cs.length + (Road.dec x).length) (2 * N + 2) ≤ 70) (sq : σ q) (cp : Int32) (Hc : Sta Z Z.heap Road.SN "COMPACT_STRINGS" "Z" (.int cp)) (hcp : ¬ cp = 0) (o1 o2 : Addr) (HO : Sta Z Z.heap "java/lang/Integer" "DigitOnes" "[B" (.ref o1)) (AO : Road.Ary Z Z.heap o1 .byte Road.OnesL) (HT : Sta Z Z.heap "java/lang/Integer" "DigitTens" "[B" (.ref o2)) (AT : Road.Ary Z Z.heap o2 .byte Road.TensL) :
    Road.Con l Z consts_1 n0 false bAiG [] σ #[(.ref q), (.int x)] h0 (fun v h2 s2 => v = some (.ref q) ∧ Keep h0 h2 [q] ∧ ∃ d, Road.Sb Z h2 q d (cs ++ Road.dec x) (max (cs.length + (Road.dec x).length) (2 * N + 2)) ∧ h0.size ≤ d ∧ s2 d ∧ Exa Z h2 d "[B") := by
  have S0 := S
  have hN := S.small
  have hle := S.le
  obtain ⟨E, Fc, Fv, Fn, ⟨r, Ab, hr⟩, hlt⟩ := S
  have nqb : q ≠ b := by obtain ⟨c, Ar, -⟩ := Ab; exact ne_arr E (wI hw 135 rfl) Ar
  refine Road.Con.of bAiG_pn hEW #[.val (.ref q), .val (.int x), .unset, .unset] (fun m => Road.ent (Road.laid1 rfl (Road.laid1 rfl Road.laid0)) (k := 2) rfl rfl) ?_
  intro D hD
  refine Road.aloadN 0 bAi0_d0 rfl ?_
  refine Road.getfield 1 bAi0_d1 (wI hw 164 rfl) Via.refl Fn ?_
  refine Road.istoreN 4 #[.val (.ref q), .val (.int x), .val (.int (Nat.toInt32 cs.length)), .unset] bAi0_d4 rfl ?_
  refine Road.iloadN 5 bAi0_d5 rfl ?_
  refine Road.iloadN 6 bAi0_d6 rfl ?_
  refine Road.callS (B' := bSz) 7 (argsL := [(.int x)]) (rest := [(.int (Nat.toInt32 cs.length))]) 1 bAi0_d7 (wI hw 224 rfl) (wI hw 225 rfl) (wI hw 226 rfl) (wI hw 227 rfl) (by decide) (cSz l Z a0 hw n0 hEW x h0 σ) (lenOf bSz_pd rfl) rfl rfl rfl (by decide) (by decide) (ce' := 0) (sl' := 0) rfl rfl (by decide) (by decide) ?_
  rintro _ h_1 σ_2 m_3 ⟨rfl, rfl⟩
  refine Road.Go.weaken (σ' := σ) m_3 (Nat.le_refl _) (Nat.le_refl _) ?_
  refine Road.iadd 10 bAi0_d10 ?_
  refine Road.nameI ?_
  intro z_5 hz_5
  obtain rfl : z_5 = (Nat.toInt32 (cs.length + (Road.dec x).length)) := by rw [hz_5]; exact Road.add32n _ _
  refine Road.istoreN 11 #[.val (.ref q), .val (.int x), .val (.int (Nat.toInt32 cs.length)), .val (.int (Nat.toInt32 (cs.length + (Road.dec x).length)))] bAi0_d11 rfl ?_
  refine Road.aloadN 12 bAi0_d12 rfl ?_
  refine Road.iloadN 13 bAi0_d13 rfl ?_
  refine Road.callP (B' := bEnG) (a := q) 14 (argsL := [(.int (Nat.toInt32 (cs.length + (Road.dec x).length)))]) (rest := []) "java/lang/StringBuilder" 0 bAi0_d14 (wI hw 166 rfl) (wI hw 168 rfl) (wI hw 169 rfl) (wI hw 167 rfl) (wI hw 144 rfl) (wI hw 170 rfl) (by decide) E (cEnG l Z a0 hw n0 hEW q b cs N (cs.length + (Road.dec x).length) h0 σ S0 hm hcap sq) (lenOf bEnG_pd rfl) rfl rfl rfl (by decide) (by decide) (ce' := 1) (sl' := 70) rfl rfl (by decide) (by decide) ?_
  rintro _ h_6 σ_7 m_8 ⟨rfl, K_9, d, S2, gd, sd, ED⟩
  replace sq := m_8 _ sq
  clear E Fc Fv Fn Ab
  obtain ⟨E, Fc, Fv, Fn, ⟨r2, Ab, hr2⟩, -⟩ := S2
  have nqd : q ≠ d := by obtain ⟨c, Ar, -⟩ := Ab; exact ne_arr E (wI hw 135 rfl) Ar
  refine Road.aloadN 17 bAi0_d17 rfl ?_
  refine Road.callV (B' := bAbL) (a := q) 18 (argsL := []) (rest := []) "java/lang/StringBuilder" 0 bAi0_d18 (wI hw 228 rfl) (wI hw 229 rfl) (fun vm hz => Road.notFace_sib (args := #[]) (mv (s := D.s.setVm vm) hz (wI hw 169 rfl)) rfl) (wI hw 231 rfl) (wI hw 230 rfl) (wI hw 144 rfl) (wI hw 232 rfl) (by decide) E (cAbL l Z a0 hw n0 hEW q h_6 σ_7 Fc cp Hc hcp) (lenOf bAbL_pd rfl) rfl rfl rfl (by decide) (by decide) (ce' := 1) (sl' := 70) rfl rfl (by decide) (by decide) ?_
  rintro _ h_11 σ_12 m_13 ⟨rfl, rfl⟩
  refine Road.Go.weaken (σ' := σ_7) m_13 (Nat.le_refl _) (Nat.le_refl _) ?_
  refine Road.if_eq 21 37 bAi0_d21 rfl (fun q => absurd q (by decide)) (fun hc21 => ?_)
  refine Road.iloadN 24 bAi0_d24 rfl ?_
  refine Road.iloadN 25 bAi0_d25 rfl ?_
  refine Road.aloadN 26 bAi0_d26 rfl ?_
  refine Road.getfield 27 bAi0_d27 (wI hw 148 rfl) Via.refl Fv ?_
  refine Road.callS (B' := bGch) 30 (argsL := [(.int x), (.int (Nat.toInt32 (cs.length + (Road.dec x).length))), (.ref d)]) (rest := []) 0 bAi0_d30 (wI hw 233 rfl) (wI hw 234 rfl) (wI hw 226 rfl) (wI hw 235 rfl) (by decide) (cGch l Z a0 hw n0 hEW x d _ cs.length h_6 σ_7 Ab (by rw [List.length_append, List.length_map]; omega) sd o1 o2 HO AO HT AT) (lenOf bGch_pd rfl) rfl rfl rfl (by decide) (by decide) (ce' := 1) (sl' := 70) rfl rfl (by decide) (by decide) ?_
  rintro _ h_15 σ_16 m_17 ⟨rfl, K_18, A2⟩
  replace ED := ED.keep K_18
  replace E := E.keep K_18
  replace Fc := Fc.keep K_18 (ninS nqd nin0)
  replace Fv := Fv.keep K_18 (ninS nqd nin0)
  replace Fn := Fn.keep K_18 (ninS nqd nin0)
  replace sq := m_17 _ sq
  replace sd := m_17 _ sd
  rw [Road.put_wr _ _ _ (by omega)] at A2
  refine Road.pop 33 bAi0_d33 ?_
  refine Road.goto 34 48 bAi0_d34 rfl ?_
  refine Road.aloadN 48 bAi0_d48 rfl ?_
  refine Road.iloadN 49 bAi0_d49 rfl ?_
  refine Road.nameI ?_
  intro z_21 hz_21
  obtain rfl : z_21 = (Nat.toInt32 (cs ++ Road.dec x).length) := by rw [hz_21]; rw [List.length_append]
  refine Road.putfield 50 bAi0_d50 (wI hw 164 rfl) Via.refl Fn E (Or.inl (wI hw 165 rfl)) (wI hw 135 rfl) (ty := .int) (by decide) rfl rfl sq ?_
  intro h_24 W_22 K_23
  replace Fn := Fn.same W_22
  replace Fc := Fc.other W_22 (Or.inr (slot_ne (Or.inl (wI hw 151 rfl)) (Or.inl (wI hw 165 rfl)) (by decide) (t := .byte) (by decide) (t' := .int) (by decide)))
  replace Fv := Fv.other W_22 (Or.inr (slot_ne (Or.inl (wI hw 149 rfl)) (Or.inl (wI hw 165 rfl)) (by decide) (t := (.array .byte)) (by decide) (t' := .int) (by decide)))
  replace ED := ED.keep K_23
  replace E := E.keep K_23
  replace A2 := A2.keep K_23 (ninS (Ne.symm nqd) nin0)
  refine Road.aloadN 53 bAi0_d53 rfl ?_
  exact Road.aret 54 bAi0_d54 (t := (.object "java/lang/AbstractStringBuilder")) rfl rfl rfl (by decide) (by decide) (fun σ' m => ⟨rfl, (K_9.trans K_18 (by intro x hx; cases List.mem_singleton.mp hx; exact Or.inr gd)).trans K_23 (by simp), d, ⟨E, Fc, Fv, Fn, ⟨_, A2, by rw [List.length_append, List.length_drop]; omega⟩, (fun c hc => (List.mem_append.mp hc).elim (hlt c) (Road.dec_lat x c))⟩, gd, m _ sd, ED⟩)
def bSiG : Road.Bdy := (⟨"java/lang/StringBuilder", "append", "(I)Ljava/lang/StringBuilder;"⟩, jdk_67_method_15_code, 2, (some (.object "java/lang/StringBuilder")), { frames := 5, cells := 1, slots := 70, locals := 77 })
theorem bSiG_pd : parseMethodDescriptor "(I)Ljava/lang/StringBuilder;" = some ⟨[.int], (some (.object "java/lang/StringBuilder"))⟩ := by decide +kernel
theorem bSiG_pn : plainFor bSiG.y = true := plainFor_of_name (show plainName "java/lang/StringBuilder" = true from by first | (simp [plainName, overriddenIn]; done) | decide +kernel)
theorem cSiG (l : Launch) (Z : State) (a0 : Array Value) (hw : ∀ d ∈ tables_1, d.before a0 Z = true) (n0 : Nat) (hEW : EW Z a0 consts_1) (q b : Addr) (cs : List Int32) (N : Nat) (x : Int32) (h0 : Heap) (σ : Addr → Prop) (S : Road.Sb Z h0 q b cs N) (hm : N < cs.length + (Road.dec x).length) (hcap : max (cs.length + (Road.dec x).length) (2 * N + 2) ≤ 70) (sq : σ q) (cp : Int32) (Hc : Sta Z Z.heap Road.SN "COMPACT_STRINGS" "Z" (.int cp)) (hcp : ¬ cp = 0) (o1 o2 : Addr) (HO : Sta Z Z.heap "java/lang/Integer" "DigitOnes" "[B" (.ref o1)) (AO : Road.Ary Z Z.heap o1 .byte Road.OnesL) (HT : Sta Z Z.heap "java/lang/Integer" "DigitTens" "[B" (.ref o2)) (AT : Road.Ary Z Z.heap o2 .byte Road.TensL) :
    Road.Con l Z consts_1 n0 false bSiG [] σ #[(.ref q), (.int x)] h0 (fun v h2 s2 => v = some (.ref q) ∧ Keep h0 h2 [q] ∧ ∃ d, Road.Sb Z h2 q d (cs ++ Road.dec x) (max (cs.length + (Road.dec x).length) (2 * N + 2)) ∧ h0.size ≤ d ∧ s2 d ∧ Exa Z h2 d "[B") := by
  refine Road.Con.of bSiG_pn hEW #[.val (.ref q), .val (.int x)] (fun m => Road.ent (Road.laid1 rfl (Road.laid1 rfl Road.laid0)) (k := 0) rfl rfl) ?_
  intro D hD
  refine Road.aloadN 0 bSi0_d0 rfl ?_
  refine Road.iloadN 1 bSi0_d1 rfl ?_
  refine Road.callUp (B' := bAiG) (a := q) 2 (argsL := [(.int x)]) (rest := []) "java/lang/StringBuilder" 0 bSi0_d2 (wI hw 220 rfl) (Road.notFace_sib (wI hw 169 rfl) rfl) (wI hw 221 rfl) (wI hw 160 rfl) (wI hw 144 rfl) (wI hw 223 rfl) (by decide) (by decide) S.1 (cAiG l Z a0 hw n0 hEW q b cs N x h0 σ S hm hcap sq cp Hc hcp o1 o2 HO AO HT AT) (lenOf bAiG_pd rfl) rfl rfl rfl (by decide) (by decide) (ce' := 1) (sl' := 70) rfl rfl (by decide) (by decide) ?_
  rintro _ h_1 σ_2 m_3 ⟨rfl, K_4, d, S2, gd, sd, ED⟩
  refine Road.pop 5 bSi0_d5 ?_
  refine Road.aloadN 6 bSi0_d6 rfl ?_
  exact Road.aret 7 bSi0_d7 (t := (.object "java/lang/StringBuilder")) rfl rfl rfl (by decide) (by decide) (fun σ' m => ⟨rfl, K_4, d, S2, gd, m _ sd, ED⟩)
def bSiX : Road.Bdy := (⟨"java/lang/StringBuilder", "append", "(I)Ljava/lang/StringBuilder;"⟩, jdk_67_method_15_code, 2, (some (.object "java/lang/StringBuilder")), { frames := 5, cells := 1, slots := 70, locals := 77 })
theorem bSiX_pd : parseMethodDescriptor "(I)Ljava/lang/StringBuilder;" = some ⟨[.int], (some (.object "java/lang/StringBuilder"))⟩ := by decide +kernel
theorem bSiX_pn : plainFor bSiX.y = true := plainFor_of_name (show plainName "java/lang/StringBuilder" = true from by first | (simp [plainName, overriddenIn]; done) | decide +kernel)
theorem cSiX (l : Launch) (Z : State) (a0 : Array Value) (hw : ∀ d ∈ tables_1, d.before a0 Z = true) (n0 : Nat) (hEW : EW Z a0 consts_1) (q b : Addr) (cs : List Int32) (N : Nat) (x : Int32) (h0 : Heap) (σ : Addr → Prop) (S : Road.Sb Z h0 q b cs N) (EB : Exa Z h0 b "[B") (hcap : cs.length + (Road.dec x).length ≤ N ∨ max (cs.length + (Road.dec x).length) (2 * N + 2) ≤ 70) (sb_ : σ b) (sq : σ q) (cp : Int32) (Hc : Sta Z Z.heap Road.SN "COMPACT_STRINGS" "Z" (.int cp)) (hcp : ¬ cp = 0) (o1 o2 : Addr) (HO : Sta Z Z.heap "java/lang/Integer" "DigitOnes" "[B" (.ref o1)) (AO : Road.Ary Z Z.heap o1 .byte Road.OnesL) (HT : Sta Z Z.heap "java/lang/Integer" "DigitTens" "[B" (.ref o2)) (AT : Road.Ary Z Z.heap o2 .byte Road.TensL) :
    Road.Con l Z consts_1 n0 false bSiX [] σ #[(.ref q), (.int x)] h0 (fun v h2 s2 => v = some (.ref q) ∧ Keep h0 h2 [q, b] ∧ ∃ d N', Road.Sb Z h2 q d (cs ++ Road.dec x) N' ∧ (d = b ∨ h0.size ≤ d) ∧ (cs.length + (Road.dec x).length ≤ N ∧ N' = N ∨ N < cs.length + (Road.dec x).length ∧ N' = max (cs.length + (Road.dec x).length) (2 * N + 2)) ∧ s2 d ∧ Exa Z h2 d "[B") := by
  refine Road.Con.of bSiX_pn hEW #[.val (.ref q), .val (.int x)] (fun m => Road.ent (Road.laid1 rfl (Road.laid1 rfl Road.laid0)) (k := 0) rfl rfl) ?_
  intro D hD
  refine Road.aloadN 0 bSi0_d0 rfl ?_
  refine Road.iloadN 1 bSi0_d1 rfl ?_
  by_cases hm : cs.length + (Road.dec x).length ≤ N
  · skip
    refine Road.callUp (B' := bAi0) (a := q) 2 (argsL := [(.int x)]) (rest := []) "java/lang/StringBuilder" 0 bSi0_d2 (wI hw 220 rfl) (Road.notFace_sib (wI hw 169 rfl) rfl) (wI hw 221 rfl) (wI hw 160 rfl) (wI hw 144 rfl) (wI hw 223 rfl) (by decide) (by decide) S.1 (cAi0 l Z a0 hw n0 hEW q b cs N x h0 σ S hm sb_ sq cp Hc hcp o1 o2 HO AO HT AT) (lenOf bAi0_pd rfl) rfl rfl rfl (by decide) (by decide) (ce' := 0) (sl' := 0) rfl rfl (by decide) (by decide) ?_
    rintro _ h_1 σ_2 m_3 ⟨rfl, K_4, S2⟩
    replace EB := EB.keep K_4
    refine Road.pop 5 bSi0_d5 ?_
    refine Road.aloadN 6 bSi0_d6 rfl ?_
    exact Road.aret 7 bSi0_d7 (t := (.object "java/lang/StringBuilder")) rfl rfl rfl (by decide) (by decide) (fun σ' m => ⟨rfl, K_4, b, N, S2, Or.inl rfl, Or.inl ⟨hm, rfl⟩, m _ (m_3 _ sb_), EB⟩)
  · skip
    refine Road.callUp (B' := bAiG) (a := q) 2 (argsL := [(.int x)]) (rest := []) "java/lang/StringBuilder" 0 bSi0_d2 (wI hw 220 rfl) (Road.notFace_sib (wI hw 169 rfl) rfl) (wI hw 221 rfl) (wI hw 160 rfl) (wI hw 144 rfl) (wI hw 223 rfl) (by decide) (by decide) S.1 (cAiG l Z a0 hw n0 hEW q b cs N x h0 σ S (by omega) (by omega) sq cp Hc hcp o1 o2 HO AO HT AT) (lenOf bAiG_pd rfl) rfl rfl rfl (by decide) (by decide) (ce' := 1) (sl' := 70) rfl rfl (by decide) (by decide) ?_
    rintro _ h_5 σ_6 m_7 ⟨rfl, K_8, d, S2, gd, sd, ED⟩
    refine Road.pop 5 bSi0_d5 ?_
    refine Road.aloadN 6 bSi0_d6 rfl ?_
    exact Road.aret 7 bSi0_d7 (t := (.object "java/lang/StringBuilder")) rfl rfl rfl (by decide) (by decide) (fun σ' m => ⟨rfl, Road.keep_sub K_8 (by simp), d, _, S2, Or.inr gd, Or.inr ⟨by omega, rfl⟩, m _ sd, ED⟩)
def bChL : Road.Bdy := (⟨"java/util/Arrays", "checkLength", "(II)V"⟩, jdk_65_method_131_code, 2, none, { frames := 0, cells := 0, slots := 0, locals := 0 })
theorem bChL_d0 : decode bChL.bs 0 = .ok (.iload_n 1, 1) := by decide +kernel
theorem bChL_d1 : decode bChL.bs 1 = .ok (.iload_n 0, 1) := by decide +kernel
theorem bChL_d2 : decode bChL.bs 2 = .ok (.if_icmp .ge 35, 3) := by decide +kernel
theorem bChL_d5 : decode bChL.bs 5 = .ok (.new 43, 3) := by decide +kernel
theorem bChL_d8 : decode bChL.bs 8 = .ok (.dup, 1) := by decide +kernel
theorem bChL_d9 : decode bChL.bs 9 = .ok (.new 45, 3) := by decide +kernel
theorem bChL_d12 : decode bChL.bs 12 = .ok (.dup, 1) := by decide +kernel
theorem bChL_d13 : decode bChL.bs 13 = .ok (.invokespecial 47, 3) := by decide +kernel
theorem bChL_d16 : decode bChL.bs 16 = .ok (.iload_n 0, 1) := by decide +kernel
theorem bChL_d17 : decode bChL.bs 17 = .ok (.invokevirtual 54, 3) := by decide +kernel
theorem bChL_d20 : decode bChL.bs 20 = .ok (.ldc_w 337, 3) := by decide +kernel
theorem bChL_d23 : decode bChL.bs 23 = .ok (.invokevirtual 50, 3) := by decide +kernel
theorem bChL_d26 : decode bChL.bs 26 = .ok (.iload_n 1, 1) := by decide +kernel
theorem bChL_d27 : decode bChL.bs 27 = .ok (.invokevirtual 54, 3) := by decide +kernel
theorem bChL_d30 : decode bChL.bs 30 = .ok (.invokevirtual 61, 3) := by decide +kernel
theorem bChL_d33 : decode bChL.bs 33 = .ok (.invokespecial 65, 3) := by decide +kernel
theorem bChL_d36 : decode bChL.bs 36 = .ok (.athrow, 1) := by decide +kernel
theorem bChL_d37 : decode bChL.bs 37 = .ok (.return_, 1) := by decide +kernel
theorem bChL_pd : parseMethodDescriptor "(II)V" = some ⟨[.int, .int], none⟩ := by decide +kernel
theorem bChL_pn : plainFor bChL.y = true := plainFor_of_name (show plainName "java/util/Arrays" = true from by first | (simp [plainName, overriddenIn]; done) | decide +kernel)
theorem cChL (l : Launch) (Z : State) (a0 : Array Value) (hw : ∀ d ∈ tables_1, d.before a0 Z = true) (n0 : Nat) (hEW : EW Z a0 consts_1) (n : Nat) (h0 : Heap) (σ : Addr → Prop) (hn : n < 2147483648) :
    Road.Con l Z consts_1 n0 false bChL [] σ #[(.int (0 : Int32)), (.int (Nat.toInt32 n))] h0 (fun v h2 _ => v = none ∧ h0 = h2) := by
  refine Road.Con.of bChL_pn hEW #[.val (.int (0 : Int32)), .val (.int (Nat.toInt32 n))] (fun m => Road.ent (Road.laid1 rfl (Road.laid1 rfl Road.laid0)) (k := 0) rfl rfl) ?_
  intro D hD
  refine Road.iloadN 0 bChL_d0 rfl ?_
  refine Road.iloadN 1 bChL_d1 rfl ?_
  refine Road.icmp_ge 2 37 bChL_d2 rfl (fun hc2 => ?_) (fun q => absurd q (by rw [show (0 : Int32) = Nat.toInt32 0 from rfl, Road.lt32 hn (by omega)]; omega))
  exact Road.ret 37 bChL_d37 rfl (by decide) (by decide) (fun σ' m => ⟨rfl, rfl⟩)
def bCrB : Road.Bdy := (⟨"java/util/Arrays", "copyOfRangeByte", "([BII)[B"⟩, jdk_65_method_133_code, 5, (some (.array .byte)), { frames := 1, cells := 1, slots := 45, locals := 22 })
theorem bCrB_d0 : decode bCrB.bs 0 = .ok (.iload_n 1, 1) := by decide +kernel
theorem bCrB_d1 : decode bCrB.bs 1 = .ok (.iload_n 2, 1) := by decide +kernel
theorem bCrB_d2 : decode bCrB.bs 2 = .ok (.invokestatic 343, 3) := by decide +kernel
theorem bCrB_d5 : decode bCrB.bs 5 = .ok (.iload_n 2, 1) := by decide +kernel
theorem bCrB_d6 : decode bCrB.bs 6 = .ok (.iload_n 1, 1) := by decide +kernel
theorem bCrB_d7 : decode bCrB.bs 7 = .ok (.isub, 1) := by decide +kernel
theorem bCrB_d8 : decode bCrB.bs 8 = .ok (.istore_n 3, 1) := by decide +kernel
theorem bCrB_d9 : decode bCrB.bs 9 = .ok (.iload_n 3, 1) := by decide +kernel
theorem bCrB_d10 : decode bCrB.bs 10 = .ok (.newarray .byte, 2) := by decide +kernel
theorem bCrB_d12 : decode bCrB.bs 12 = .ok (.astore 4, 2) := by decide +kernel
theorem bCrB_d14 : decode bCrB.bs 14 = .ok (.aload_n 0, 1) := by decide +kernel
theorem bCrB_d15 : decode bCrB.bs 15 = .ok (.iload_n 1, 1) := by decide +kernel
theorem bCrB_d16 : decode bCrB.bs 16 = .ok (.aload 4, 2) := by decide +kernel
theorem bCrB_d18 : decode bCrB.bs 18 = .ok (.iconst 0, 1) := by decide +kernel
theorem bCrB_d19 : decode bCrB.bs 19 = .ok (.aload_n 0, 1) := by decide +kernel
theorem bCrB_d20 : decode bCrB.bs 20 = .ok (.arraylength, 1) := by decide +kernel
theorem bCrB_d21 : decode bCrB.bs 21 = .ok (.iload_n 1, 1) := by decide +kernel
theorem bCrB_d22 : decode bCrB.bs 22 = .ok (.isub, 1) := by decide +kernel
theorem bCrB_d23 : decode bCrB.bs 23 = .ok (.iload_n 3, 1) := by decide +kernel
theorem bCrB_d24 : decode bCrB.bs 24 = .ok (.invokestatic 304, 3) := by decide +kernel
theorem bCrB_d27 : decode bCrB.bs 27 = .ok (.invokestatic 150, 3) := by decide +kernel
theorem bCrB_d30 : decode bCrB.bs 30 = .ok (.aload 4, 2) := by decide +kernel
theorem bCrB_d32 : decode bCrB.bs 32 = .ok (.areturn, 1) := by decide +kernel
theorem bCrB_pd : parseMethodDescriptor "([BII)[B" = some ⟨[(.array .byte), .int, .int], (some (.array .byte))⟩ := by decide +kernel
theorem bCrB_pn : plainFor bCrB.y = true := plainFor_of_name (show plainName "java/util/Arrays" = true from by first | (simp [plainName, overriddenIn]; done) | decide +kernel)
theorem cCrB (l : Launch) (Z : State) (a0 : Array Value) (hw : ∀ d ∈ tables_1, d.before a0 Z = true) (n0 : Nat) (hEW : EW Z a0 consts_1) (b : Addr) (vs : List Value) (n : Nat) (h0 : Heap) (σ : Addr → Prop) (A : Road.Ary Z h0 b .byte vs) (hn : n < vs.length) (hcap : n ≤ 45) :
    Road.Con l Z consts_1 n0 false bCrB [] σ #[(.ref b), (.int (0 : Int32)), (.int (Nat.toInt32 n))] h0 (fun v h2 s2 => ∃ d, v = some (.ref d) ∧ h0.size ≤ d ∧ Keep h0 h2 [] ∧ s2 d ∧ Road.Ary Z h2 d .byte (vs.take n)) := by
  have hsm := A.small
  refine Road.Con.of bCrB_pn hEW #[.val (.ref b), .val (.int (0 : Int32)), .val (.int (Nat.toInt32 n)), .unset, .unset] (fun m => Road.ent (Road.laid1 rfl (Road.laid1 rfl (Road.laid1 rfl Road.laid0))) (k := 2) rfl rfl) ?_
  intro D hD
  refine Road.iloadN 0 bCrB_d0 rfl ?_
  refine Road.iloadN 1 bCrB_d1 rfl ?_
  refine Road.callS (B' := bChL) 2 (argsL := [(.int (0 : Int32)), (.int (Nat.toInt32 n))]) (rest := []) 0 bCrB_d2 (wI hw 271 rfl) (wI hw 272 rfl) (wI hw 188 rfl) (wI hw 273 rfl) (by decide) (cChL l Z a0 hw n0 hEW n h0 σ (by omega)) (lenOf bChL_pd rfl) rfl rfl rfl (by decide) (by decide) (ce' := 0) (sl' := 0) rfl rfl (by decide) (by decide) ?_
  rintro _ h_1 σ_2 m_3 ⟨rfl, rfl⟩
  refine Road.Go.weaken (σ' := σ) m_3 (Nat.le_refl _) (Nat.le_refl _) ?_
  refine Road.iloadN 5 bCrB_d5 rfl ?_
  refine Road.iloadN 6 bCrB_d6 rfl ?_
  refine Road.isub 7 bCrB_d7 ?_
  refine Road.nameI ?_
  intro z_5 hz_5
  obtain rfl : z_5 = (Nat.toInt32 n) := by rw [hz_5]; exact Int32.sub_zero _
  refine Road.istoreN 8 #[.val (.ref b), .val (.int (0 : Int32)), .val (.int (Nat.toInt32 n)), .val (.int (Nat.toInt32 n)), .unset] bCrB_d8 rfl ?_
  refine Road.iloadN 9 bCrB_d9 rfl ?_
  refine Road.newarray 10 .byte n 45 bCrB_d10 rfl (wI hw 21 rfl) (Road.n32 (by omega)) hcap (by decide) (ce' := 1) (sl' := 45) rfl rfl (by decide) (by decide) ?_
  intro d h_6 σ_7 g_8 K_9 lt_10 m_11 s_12 Ad
  have ne_b_d : b ≠ d := Nat.ne_of_lt (Nat.lt_of_lt_of_le A.lt (Nat.le_of_eq g_8.symm))
  replace A := A.keep K_9 nin0
  refine Road.astore 12 #[.val (.ref b), .val (.int (0 : Int32)), .val (.int (Nat.toInt32 n)), .val (.int (Nat.toInt32 n)), .val (.ref d)] bCrB_d12 rfl ?_
  refine Road.aloadN 14 bCrB_d14 rfl ?_
  refine Road.iloadN 15 bCrB_d15 rfl ?_
  refine Road.aload 16 bCrB_d16 rfl ?_
  refine Road.iconst 18 (0 : Int32) bCrB_d18 rfl ?_
  refine Road.aloadN 19 bCrB_d19 rfl ?_
  refine Road.alen 20 (Nat.toInt32 vs.length) bCrB_d20 A (n := vs.length) rfl rfl ?_
  refine Road.iloadN 21 bCrB_d21 rfl ?_
  refine Road.isub 22 bCrB_d22 ?_
  refine Road.nameI ?_
  intro z_13 hz_13
  obtain rfl : z_13 = (Nat.toInt32 vs.length) := by rw [hz_13]; exact Int32.sub_zero _
  refine Road.iloadN 23 bCrB_d23 rfl ?_
  refine Road.callS (B' := bMin) 24 (argsL := [(.int (Nat.toInt32 vs.length)), (.int (Nat.toInt32 n))]) (rest := [(.int (0 : Int32)), (.ref d), (.int (0 : Int32)), (.ref b)]) 4 bCrB_d24 (wI hw 190 rfl) (wI hw 191 rfl) (wI hw 182 rfl) (wI hw 192 rfl) (by decide) (cMin l Z a0 hw n0 hEW vs.length n h_6 σ_7 hsm (by omega)) (lenOf bMin_pd rfl) rfl rfl rfl (by decide) (by decide) (ce' := 1) (sl' := 45) rfl rfl (by decide) (by decide) ?_
  rintro _ h_14 σ_15 m_16 ⟨rfl, rfl⟩
  refine Road.Go.weaken (σ' := σ_7) m_16 (Nat.le_refl _) (Nat.le_refl _) ?_
  refine Road.acopy 27 0 0 n 0 bCrB_d27 (wI hw 193 rfl) (wI hw 196 rfl) (wI hw 194 rfl) (wI hw 195 rfl) A Ad rfl rfl rfl (by rw [Nat.min_eq_right (by omega)]; exact Road.n32 (by omega)) (by omega) (by rw [List.length_replicate]; omega) s_12 rfl rfl (by decide) (by decide) ?_
  intro h_18 K_19 Ae
  replace A := A.keep K_19 (ninS ne_b_d nin0)
  refine Road.aload 30 bCrB_d30 rfl ?_
  exact Road.aret 32 bCrB_d32 (t := (.array .byte)) rfl rfl rfl (by decide) (by decide) (fun σ' m => ⟨d, rfl, Nat.le_of_eq g_8.symm, K_9.trans K_19 (by intro x hx; cases List.mem_singleton.mp hx; exact Or.inr (Nat.le_of_eq g_8.symm)), m _ s_12, by simpa using Ae⟩)
def bCrR : Road.Bdy := (⟨"java/util/Arrays", "copyOfRange", "([BII)[B"⟩, jdk_65_method_132_code, 3, (some (.array .byte)), { frames := 2, cells := 1, slots := 45, locals := 38 })
theorem bCrR_d0 : decode bCrR.bs 0 = .ok (.iload_n 1, 1) := by decide +kernel
theorem bCrR_d1 : decode bCrR.bs 1 = .ok (.ifCond .ne 9, 3) := by decide +kernel
theorem bCrR_d4 : decode bCrR.bs 4 = .ok (.iload_n 2, 1) := by decide +kernel
theorem bCrR_d5 : decode bCrR.bs 5 = .ok (.aload_n 0, 1) := by decide +kernel
theorem bCrR_d6 : decode bCrR.bs 6 = .ok (.arraylength, 1) := by decide +kernel
theorem bCrR_d7 : decode bCrR.bs 7 = .ok (.if_icmp .eq 10, 3) := by decide +kernel
theorem bCrR_d10 : decode bCrR.bs 10 = .ok (.aload_n 0, 1) := by decide +kernel
theorem bCrR_d11 : decode bCrR.bs 11 = .ok (.iload_n 1, 1) := by decide +kernel
theorem bCrR_d12 : decode bCrR.bs 12 = .ok (.iload_n 2, 1) := by decide +kernel
theorem bCrR_d13 : decode bCrR.bs 13 = .ok (.invokestatic 339, 3) := by decide +kernel
theorem bCrR_d16 : decode bCrR.bs 16 = .ok (.areturn, 1) := by decide +kernel
theorem bCrR_d17 : decode bCrR.bs 17 = .ok (.aload_n 0, 1) := by decide +kernel
theorem bCrR_d18 : decode bCrR.bs 18 = .ok (.invokevirtual 310, 3) := by decide +kernel
theorem bCrR_d21 : decode bCrR.bs 21 = .ok (.checkcast 311, 3) := by decide +kernel
theorem bCrR_d24 : decode bCrR.bs 24 = .ok (.areturn, 1) := by decide +kernel
theorem bCrR_pd : parseMethodDescriptor "([BII)[B" = some ⟨[(.array .byte), .int, .int], (some (.array .byte))⟩ := by decide +kernel
theorem bCrR_pn : plainFor bCrR.y = true := plainFor_of_name (show plainName "java/util/Arrays" = true from by first | (simp [plainName, overriddenIn]; done) | decide +kernel)
theorem cCrR (l : Launch) (Z : State) (a0 : Array Value) (hw : ∀ d ∈ tables_1, d.before a0 Z = true) (n0 : Nat) (hEW : EW Z a0 consts_1) (b : Addr) (vs : List Value) (n : Nat) (h0 : Heap) (σ : Addr → Prop) (A : Road.Ary Z h0 b .byte vs) (hn : n < vs.length) (hcap : n ≤ 45) :
    Road.Con l Z consts_1 n0 false bCrR [] σ #[(.ref b), (.int (0 : Int32)), (.int (Nat.toInt32 n))] h0 (fun v h2 s2 => ∃ d, v = some (.ref d) ∧ h0.size ≤ d ∧ Keep h0 h2 [] ∧ s2 d ∧ Road.Ary Z h2 d .byte (vs.take n)) := by
  have hsm := A.small
  refine Road.Con.of bCrR_pn hEW #[.val (.ref b), .val (.int (0 : Int32)), .val (.int (Nat.toInt32 n))] (fun m => Road.ent (Road.laid1 rfl (Road.laid1 rfl (Road.laid1 rfl Road.laid0))) (k := 0) rfl rfl) ?_
  intro D hD
  refine Road.iloadN 0 bCrR_d0 rfl ?_
  refine Road.if_ne 1 10 bCrR_d1 rfl (fun q => absurd q (by decide)) (fun hc1 => ?_)
  refine Road.iloadN 4 bCrR_d4 rfl ?_
  refine Road.aloadN 5 bCrR_d5 rfl ?_
  refine Road.alen 6 (Nat.toInt32 vs.length) bCrR_d6 A (n := vs.length) rfl rfl ?_
  refine Road.icmp_eq 7 17 bCrR_d7 rfl (fun q => absurd q (by rw [Road.eq32 (by omega) hsm]; omega)) (fun hc7 => ?_)
  refine Road.aloadN 10 bCrR_d10 rfl ?_
  refine Road.iloadN 11 bCrR_d11 rfl ?_
  refine Road.iloadN 12 bCrR_d12 rfl ?_
  refine Road.callS (B' := bCrB) 13 (argsL := [(.ref b), (.int (0 : Int32)), (.int (Nat.toInt32 n))]) (rest := []) 0 bCrR_d13 (wI hw 268 rfl) (wI hw 269 rfl) (wI hw 188 rfl) (wI hw 270 rfl) (by decide) (cCrB l Z a0 hw n0 hEW b vs n h0 σ A hn hcap) (lenOf bCrB_pd rfl) rfl rfl rfl (by decide) (by decide) (ce' := 1) (sl' := 45) rfl rfl (by decide) (by decide) ?_
  rintro _ h_1 σ_2 m_3 ⟨d, rfl, gd, K_4, sd, Ad⟩
  exact Road.aret 16 bCrR_d16 (t := (.array .byte)) rfl rfl rfl (by decide) (by decide) (fun σ' m => ⟨d, rfl, gd, K_4, m _ sd, Ad⟩)
def bGtV : Road.Bdy := (⟨"java/lang/AbstractStringBuilder", "getValue", "()[B"⟩, jdk_68_method_64_code, 1, (some (.array .byte)), { frames := 0, cells := 0, slots := 0, locals := 0 })
theorem bGtV_d0 : decode bGtV.bs 0 = .ok (.aload_n 0, 1) := by decide +kernel
theorem bGtV_d1 : decode bGtV.bs 1 = .ok (.getfield 15, 3) := by decide +kernel
theorem bGtV_d4 : decode bGtV.bs 4 = .ok (.areturn, 1) := by decide +kernel
theorem bGtV_pd : parseMethodDescriptor "()[B" = some ⟨[], (some (.array .byte))⟩ := by decide +kernel
theorem bGtV_pn : plainFor bGtV.y = true := plainFor_of_name (show plainName "java/lang/AbstractStringBuilder" = true from by first | (simp [plainName, overriddenIn]; done) | decide +kernel)
theorem cGtV (l : Launch) (Z : State) (a0 : Array Value) (hw : ∀ d ∈ tables_1, d.before a0 Z = true) (n0 : Nat) (hEW : EW Z a0 consts_1) (q b : Addr) (h0 : Heap) (σ : Addr → Prop) (Fv : Fld Z h0 q Road.AB "value" "[B" (.ref b)) :
    Road.Con l Z consts_1 n0 false bGtV [] σ #[(.ref q)] h0 (fun v h2 _ => v = some (.ref b) ∧ h0 = h2) := by
  refine Road.Con.of bGtV_pn hEW #[.val (.ref q)] (fun m => Road.ent (Road.laid1 rfl Road.laid0) (k := 0) rfl rfl) ?_
  intro D hD
  refine Road.aloadN 0 bGtV_d0 rfl ?_
  refine Road.getfield 1 bGtV_d1 (wI hw 148 rfl) Via.refl Fv ?_
  exact Road.aret 4 bGtV_d4 (t := (.array .byte)) rfl rfl rfl (by decide) (by decide) (fun σ' m => ⟨rfl, rfl⟩)
def bAbN : Road.Bdy := (⟨"java/lang/AbstractStringBuilder", "length", "()I"⟩, jdk_68_method_6_code, 1, (some .int), { frames := 0, cells := 0, slots := 0, locals := 0 })
theorem bAbN_d0 : decode bAbN.bs 0 = .ok (.aload_n 0, 1) := by decide +kernel
theorem bAbN_d1 : decode bAbN.bs 1 = .ok (.getfield 79, 3) := by decide +kernel
theorem bAbN_d4 : decode bAbN.bs 4 = .ok (.ireturn, 1) := by decide +kernel
theorem bAbN_pd : parseMethodDescriptor "()I" = some ⟨[], (some .int)⟩ := by decide +kernel
theorem bAbN_pn : plainFor bAbN.y = true := plainFor_of_name (show plainName "java/lang/AbstractStringBuilder" = true from by first | (simp [plainName, overriddenIn]; done) | decide +kernel)
theorem cAbN (l : Launch) (Z : State) (a0 : Array Value) (hw : ∀ d ∈ tables_1, d.before a0 Z = true) (n0 : Nat) (hEW : EW Z a0 consts_1) (q : Addr) (n : Int32) (h0 : Heap) (σ : Addr → Prop) (Fn : Fld Z h0 q Road.AB "count" "I" (.int n)) :
    Road.Con l Z consts_1 n0 false bAbN [] σ #[(.ref q)] h0 (fun v h2 _ => v = some (.int n) ∧ h0 = h2) := by
  refine Road.Con.of bAbN_pn hEW #[.val (.ref q)] (fun m => Road.ent (Road.laid1 rfl Road.laid0) (k := 0) rfl rfl) ?_
  intro D hD
  refine Road.aloadN 0 bAbN_d0 rfl ?_
  refine Road.getfield 1 bAbN_d1 (wI hw 164 rfl) Via.refl Fn ?_
  exact Road.iretI 4 bAbN_d4 rfl (by decide) (by decide) (fun σ' m => ⟨rfl, rfl⟩)
def bSbN : Road.Bdy := (⟨"java/lang/StringBuilder", "length", "()I"⟩, jdk_67_method_93_code, 1, (some .int), { frames := 1, cells := 0, slots := 0, locals := 12 })
theorem bSbN_d0 : decode bSbN.bs 0 = .ok (.aload_n 0, 1) := by decide +kernel
theorem bSbN_d1 : decode bSbN.bs 1 = .ok (.invokespecial 343, 3) := by decide +kernel
theorem bSbN_d4 : decode bSbN.bs 4 = .ok (.ireturn, 1) := by decide +kernel
theorem bSbN_pd : parseMethodDescriptor "()I" = some ⟨[], (some .int)⟩ := by decide +kernel
theorem bSbN_pn : plainFor bSbN.y = true := plainFor_of_name (show plainName "java/lang/StringBuilder" = true from by first | (simp [plainName, overriddenIn]; done) | decide +kernel)
theorem cSbN (l : Launch) (Z : State) (a0 : Array Value) (hw : ∀ d ∈ tables_1, d.before a0 Z = true) (n0 : Nat) (hEW : EW Z a0 consts_1) (q : Addr) (n : Int32) (h0 : Heap) (σ : Addr → Prop) (E : Exa Z h0 q Road.SB) (Fn : Fld Z h0 q Road.AB "count" "I" (.int n)) :
    Road.Con l Z consts_1 n0 false bSbN [] σ #[(.ref q)] h0 (fun v h2 _ => v = some (.int n) ∧ h0 = h2) := by
  refine Road.Con.of bSbN_pn hEW #[.val (.ref q)] (fun m => Road.ent (Road.laid1 rfl Road.laid0) (k := 0) rfl rfl) ?_
  intro D hD
  refine Road.aloadN 0 bSbN_d0 rfl ?_
  refine Road.callUp (B' := bAbN) (a := q) 1 (argsL := []) (rest := []) "java/lang/StringBuilder" 0 bSbN_d1 (wI hw 262 rfl) (Road.notFace_sib (wI hw 169 rfl) rfl) (wI hw 258 rfl) (wI hw 160 rfl) (wI hw 144 rfl) (wI hw 263 rfl) (by decide) (by decide) E (cAbN l Z a0 hw n0 hEW q n h0 σ Fn) (lenOf bAbN_pd rfl) rfl rfl rfl (by decide) (by decide) (ce' := 0) (sl' := 0) rfl rfl (by decide) (by decide) ?_
  rintro _ h_1 σ_2 m_3 ⟨rfl, rfl⟩
  refine Road.Go.weaken (σ' := σ) m_3 (Nat.le_refl _) (Nat.le_refl _) ?_
  exact Road.iretI 4 bSbN_d4 rfl (by decide) (by decide) (fun σ' m => ⟨rfl, rfl⟩)
def bStV : Road.Bdy := (⟨"java/lang/String", "<init>", "(Ljava/lang/AbstractStringBuilder;Ljava/lang/Void;)V"⟩, jdk_42_method_150_code, 5, none, { frames := 3, cells := 1, slots := 45, locals := 53 })
theorem bStV_d0 : decode bStV.bs 0 = .ok (.aload_n 0, 1) := by decide +kernel
theorem bStV_d1 : decode bStV.bs 1 = .ok (.invokespecial 1, 3) := by decide +kernel
theorem bStV_d4 : decode bStV.bs 4 = .ok (.aload_n 1, 1) := by decide +kernel
theorem bStV_d5 : decode bStV.bs 5 = .ok (.invokevirtual 552, 3) := by decide +kernel
theorem bStV_d8 : decode bStV.bs 8 = .ok (.astore_n 3, 1) := by decide +kernel
theorem bStV_d9 : decode bStV.bs 9 = .ok (.aload_n 1, 1) := by decide +kernel
theorem bStV_d10 : decode bStV.bs 10 = .ok (.invokevirtual 549, 3) := by decide +kernel
theorem bStV_d13 : decode bStV.bs 13 = .ok (.istore 4, 2) := by decide +kernel
theorem bStV_d15 : decode bStV.bs 15 = .ok (.aload_n 1, 1) := by decide +kernel
theorem bStV_d16 : decode bStV.bs 16 = .ok (.invokevirtual 1047, 3) := by decide +kernel
theorem bStV_d19 : decode bStV.bs 19 = .ok (.ifCond .eq 22, 3) := by decide +kernel
theorem bStV_d22 : decode bStV.bs 22 = .ok (.aload_n 0, 1) := by decide +kernel
theorem bStV_d23 : decode bStV.bs 23 = .ok (.iconst 0, 1) := by decide +kernel
theorem bStV_d24 : decode bStV.bs 24 = .ok (.putfield 15, 3) := by decide +kernel
theorem bStV_d27 : decode bStV.bs 27 = .ok (.aload_n 0, 1) := by decide +kernel
theorem bStV_d28 : decode bStV.bs 28 = .ok (.aload_n 3, 1) := by decide +kernel
theorem bStV_d29 : decode bStV.bs 29 = .ok (.iconst 0, 1) := by decide +kernel
theorem bStV_d30 : decode bStV.bs 30 = .ok (.iload 4, 2) := by decide +kernel
theorem bStV_d32 : decode bStV.bs 32 = .ok (.invokestatic 54, 3) := by decide +kernel
theorem bStV_d35 : decode bStV.bs 35 = .ok (.putfield 9, 3) := by decide +kernel
theorem bStV_d38 : decode bStV.bs 38 = .ok (.goto 59, 3) := by decide +kernel
theorem bStV_d41 : decode bStV.bs 41 = .ok (.getstatic 38, 3) := by decide +kernel
theorem bStV_d44 : decode bStV.bs 44 = .ok (.ifCond .eq 35, 3) := by decide +kernel
theorem bStV_d47 : decode bStV.bs 47 = .ok (.aload_n 1, 1) := by decide +kernel
theorem bStV_d48 : decode bStV.bs 48 = .ok (.getfield 1048, 3) := by decide +kernel
theorem bStV_d51 : decode bStV.bs 51 = .ok (.ifCond .eq 28, 3) := by decide +kernel
theorem bStV_d54 : decode bStV.bs 54 = .ok (.aload_n 0, 1) := by decide +kernel
theorem bStV_d55 : decode bStV.bs 55 = .ok (.aload_n 3, 1) := by decide +kernel
theorem bStV_d56 : decode bStV.bs 56 = .ok (.iconst 0, 1) := by decide +kernel
theorem bStV_d57 : decode bStV.bs 57 = .ok (.iload 4, 2) := by decide +kernel
theorem bStV_d59 : decode bStV.bs 59 = .ok (.invokestatic 1051, 3) := by decide +kernel
theorem bStV_d62 : decode bStV.bs 62 = .ok (.putfield 9, 3) := by decide +kernel
theorem bStV_d65 : decode bStV.bs 65 = .ok (.aload_n 0, 1) := by decide +kernel
theorem bStV_d66 : decode bStV.bs 66 = .ok (.aload_n 0, 1) := by decide +kernel
theorem bStV_d67 : decode bStV.bs 67 = .ok (.getfield 9, 3) := by decide +kernel
theorem bStV_d70 : decode bStV.bs 70 = .ok (.iload 4, 2) := by decide +kernel
theorem bStV_d72 : decode bStV.bs 72 = .ok (.invokestatic 47, 3) := by decide +kernel
theorem bStV_d75 : decode bStV.bs 75 = .ok (.putfield 15, 3) := by decide +kernel
theorem bStV_d78 : decode bStV.bs 78 = .ok (.return_, 1) := by decide +kernel
theorem bStV_d79 : decode bStV.bs 79 = .ok (.aload_n 0, 1) := by decide +kernel
theorem bStV_d80 : decode bStV.bs 80 = .ok (.iconst 1, 1) := by decide +kernel
theorem bStV_d81 : decode bStV.bs 81 = .ok (.putfield 15, 3) := by decide +kernel
theorem bStV_d84 : decode bStV.bs 84 = .ok (.aload_n 0, 1) := by decide +kernel
theorem bStV_d85 : decode bStV.bs 85 = .ok (.aload_n 3, 1) := by decide +kernel
theorem bStV_d86 : decode bStV.bs 86 = .ok (.iconst 0, 1) := by decide +kernel
theorem bStV_d87 : decode bStV.bs 87 = .ok (.iload 4, 2) := by decide +kernel
theorem bStV_d89 : decode bStV.bs 89 = .ok (.iconst 1, 1) := by decide +kernel
theorem bStV_d90 : decode bStV.bs 90 = .ok (.ishl, 1) := by decide +kernel
theorem bStV_d91 : decode bStV.bs 91 = .ok (.invokestatic 54, 3) := by decide +kernel
theorem bStV_d94 : decode bStV.bs 94 = .ok (.putfield 9, 3) := by decide +kernel
theorem bStV_d97 : decode bStV.bs 97 = .ok (.return_, 1) := by decide +kernel
theorem bStV_pd : parseMethodDescriptor "(Ljava/lang/AbstractStringBuilder;Ljava/lang/Void;)V" = some ⟨[(.object "java/lang/AbstractStringBuilder"), (.object "java/lang/Void")], none⟩ := by decide +kernel
theorem bStV_pn : plainFor bStV.y = true := plainFor_of_name (show plainName "java/lang/String" = true from by first | (simp [plainName, overriddenIn]; done) | decide +kernel)
theorem cStV (l : Launch) (Z : State) (a0 : Array Value) (hw : ∀ d ∈ tables_1, d.before a0 Z = true) (n0 : Nat) (hEW : EW Z a0 consts_1) (a : Addr) (q b : Addr) (cs : List Int32) (N : Nat) (h0 : Heap) (σ : Addr → Prop) (E : Exa Z h0 a Road.SN) (Gc : Fld Z h0 a Road.SN "coder" "B" (.int 0)) (Gv : Fld Z h0 a Road.SN "value" "[B" .null) (S : Road.Sb Z h0 q b cs N) (hn : cs.length < N) (hcap : cs.length ≤ 45) (naq : a ≠ q) (sa : σ a) (cp : Int32) (Hc : Sta Z Z.heap Road.SN "COMPACT_STRINGS" "Z" (.int cp)) (hcp : ¬ cp = 0) :
    Road.Con l Z consts_1 n0 false bStV [] σ #[(.ref a), (.ref q), .null] h0 (fun v h2 s2 => v = none ∧ Keep h0 h2 [a] ∧ ∃ d, Road.Str Z h2 a d cs ∧ h0.size ≤ d) := by
  have hN := S.small
  obtain ⟨F, Fc, Fv, Fn, ⟨r, Ab, hr⟩, hlt⟩ := S
  refine Road.Con.of bStV_pn hEW #[.val (.ref a), .val (.ref q), .val .null, .unset, .unset] (fun m => Road.ent (Road.laid1 rfl (Road.laid1 rfl (Road.laid1 rfl Road.laid0))) (k := 2) rfl rfl) ?_
  intro D hD
  refine Road.aloadN 0 bStV_d0 rfl ?_
  refine Road.initObj 1 bStV_d1 (wI hw 13 rfl) (wI hw 14 rfl) (wI hw 15 rfl) 0 rfl rfl (by decide) (by decide) ?_
  refine Road.aloadN 4 bStV_d4 rfl ?_
  refine Road.callV (B' := bGtV) (a := q) 5 (argsL := []) (rest := []) "java/lang/StringBuilder" 0 bStV_d5 (wI hw 251 rfl) (wI hw 252 rfl) (fun vm hz => Road.notFace_sib (args := #[]) (mv (s := D.s.setVm vm) hz (wI hw 169 rfl)) rfl) (wI hw 254 rfl) (wI hw 253 rfl) (wI hw 144 rfl) (wI hw 255 rfl) (by decide) F (cGtV l Z a0 hw n0 hEW q b h0 σ Fv) (lenOf bGtV_pd rfl) rfl rfl rfl (by decide) (by decide) (ce' := 0) (sl' := 0) rfl rfl (by decide) (by decide) ?_
  rintro _ h_1 σ_2 m_3 ⟨rfl, rfl⟩
  refine Road.Go.weaken (σ' := σ) m_3 (Nat.le_refl _) (Nat.le_refl _) ?_
  refine Road.astoreN 8 #[.val (.ref a), .val (.ref q), .val .null, .val (.ref b), .unset] bStV_d8 rfl ?_
  refine Road.aloadN 9 bStV_d9 rfl ?_
  refine Road.callV (B' := bSbN) (a := q) 10 (argsL := []) (rest := []) "java/lang/StringBuilder" 0 bStV_d10 (wI hw 256 rfl) (wI hw 257 rfl) (fun vm hz => Road.notFace_sib (args := #[]) (mv (s := D.s.setVm vm) hz (wI hw 169 rfl)) rfl) (wI hw 259 rfl) (wI hw 260 rfl) (wI hw 136 rfl) (wI hw 261 rfl) (by decide) F (cSbN l Z a0 hw n0 hEW q (Nat.toInt32 cs.length) h0 σ F Fn) (lenOf bSbN_pd rfl) rfl rfl rfl (by decide) (by decide) (ce' := 0) (sl' := 0) rfl rfl (by decide) (by decide) ?_
  rintro _ h_5 σ_6 m_7 ⟨rfl, rfl⟩
  refine Road.Go.weaken (σ' := σ) m_7 (Nat.le_refl _) (Nat.le_refl _) ?_
  refine Road.istore 13 #[.val (.ref a), .val (.ref q), .val .null, .val (.ref b), .val (.int (Nat.toInt32 cs.length))] bStV_d13 rfl ?_
  refine Road.aloadN 15 bStV_d15 rfl ?_
  refine Road.callV (B' := bAbL) (a := q) 16 (argsL := []) (rest := []) "java/lang/StringBuilder" 0 bStV_d16 (wI hw 264 rfl) (wI hw 229 rfl) (fun vm hz => Road.notFace_sib (args := #[]) (mv (s := D.s.setVm vm) hz (wI hw 169 rfl)) rfl) (wI hw 231 rfl) (wI hw 230 rfl) (wI hw 144 rfl) (wI hw 232 rfl) (by decide) F (cAbL l Z a0 hw n0 hEW q h0 σ Fc cp Hc hcp) (lenOf bAbL_pd rfl) rfl rfl rfl (by decide) (by decide) (ce' := 0) (sl' := 0) rfl rfl (by decide) (by decide) ?_
  rintro _ h_9 σ_10 m_11 ⟨rfl, rfl⟩
  refine Road.Go.weaken (σ' := σ) m_11 (Nat.le_refl _) (Nat.le_refl _) ?_
  refine Road.if_eq 19 41 bStV_d19 rfl (fun q => absurd q (by decide)) (fun hc19 => ?_)
  refine Road.aloadN 22 bStV_d22 rfl ?_
  refine Road.iconst 23 (0 : Int32) bStV_d23 rfl ?_
  have nab : a ≠ b := by obtain ⟨c, Ar, -⟩ := Ab; exact ne_arr E (wI hw 4 rfl) Ar
  refine Road.putfield 24 bStV_d24 (wI hw 28 rfl) Via.refl Gc E (Or.inr ⟨(wI hw 29 rfl), rfl, rfl⟩) (wI hw 4 rfl) (ty := .byte) (by decide) rfl rfl sa ?_
  intro h_15 W_13 K_14
  replace Gc := Gc.same W_13
  replace Gv := Gv.other W_13 (Or.inr (slot_ne (Or.inr (wI hw 31 rfl)) (Or.inr (wI hw 29 rfl)) (by decide) (t := (.array .byte)) (by decide) (t' := .byte) (by decide)))
  replace E := E.keep K_14
  replace Ab := Ab.keep K_14 (ninS (Ne.symm nab) nin0)
  refine Road.aloadN 27 bStV_d27 rfl ?_
  refine Road.aloadN 28 bStV_d28 rfl ?_
  refine Road.iconst 29 (0 : Int32) bStV_d29 rfl ?_
  refine Road.iload 30 bStV_d30 rfl ?_
  refine Road.callS (B' := bCrR) 32 (argsL := [(.ref b), (.int (0 : Int32)), (.int (Nat.toInt32 cs.length))]) (rest := [(.ref a)]) 1 bStV_d32 (wI hw 265 rfl) (wI hw 266 rfl) (wI hw 188 rfl) (wI hw 267 rfl) (by decide) (cCrR l Z a0 hw n0 hEW b _ cs.length h_15 σ Ab (by rw [List.length_append, List.length_map]; omega) hcap) (lenOf bCrR_pd rfl) rfl rfl rfl (by decide) (by decide) (ce' := 1) (sl' := 45) rfl rfl (by decide) (by decide) ?_
  rintro _ h_16 σ_17 m_18 ⟨d, rfl, gd, K_19, sd, Ad⟩
  have ne_a_d : a ≠ d := Nat.ne_of_lt (Nat.lt_of_lt_of_le E.lt gd)
  have ne_b_d : b ≠ d := Nat.ne_of_lt (Nat.lt_of_lt_of_le Ab.lt gd)
  replace E := E.keep K_19
  replace Gc := Gc.keep K_19 nin0
  replace Gv := Gv.keep K_19 nin0
  replace Ab := Ab.keep K_19 nin0
  replace sa := m_18 _ sa
  refine Road.putfield 35 bStV_d35 (wI hw 30 rfl) Via.refl Gv E (Or.inr ⟨(wI hw 31 rfl), rfl, rfl⟩) (wI hw 4 rfl) (ty := (.array .byte)) (by decide) rfl rfl sa ?_
  intro h_23 W_21 K_22
  replace Gv := Gv.same W_21
  replace Gc := Gc.other W_21 (Or.inr (slot_ne (Or.inr (wI hw 29 rfl)) (Or.inr (wI hw 31 rfl)) (by decide) (t := .byte) (by decide) (t' := (.array .byte)) (by decide)))
  replace E := E.keep K_22
  replace Ab := Ab.keep K_22 (ninS (Ne.symm nab) nin0)
  replace Ad := Ad.keep K_22 (ninS (Ne.symm ne_a_d) nin0)
  refine Road.goto 38 97 bStV_d38 rfl ?_
  rw [List.take_append_of_le_length (by rw [List.length_map]; omega), List.take_of_length_le (by rw [List.length_map]; omega)] at Ad
  exact Road.ret 97 bStV_d97 rfl (by decide) (by decide) (fun σ' m => ⟨rfl, (K_14.trans (Road.keep_more (ws := [a]) K_19) (by simp)).trans K_22 (by simp), d, ⟨E, Gc, Gv, Ad, hlt⟩, Nat.le_trans K_14.1 gd⟩)
def bStS : Road.Bdy := (⟨"java/lang/String", "<init>", "(Ljava/lang/StringBuilder;)V"⟩, jdk_42_method_53_code, 2, none, { frames := 4, cells := 1, slots := 45, locals := 69 })
theorem bStS_d0 : decode bStS.bs 0 = .ok (.aload_n 0, 1) := by decide +kernel
theorem bStS_d1 : decode bStS.bs 1 = .ok (.aload_n 1, 1) := by decide +kernel
theorem bStS_d2 : decode bStS.bs 2 = .ok (.aconst_null, 1) := by decide +kernel
theorem bStS_d3 : decode bStS.bs 3 = .ok (.invokespecial 489, 3) := by decide +kernel
theorem bStS_d6 : decode bStS.bs 6 = .ok (.return_, 1) := by decide +kernel
theorem bStS_pd : parseMethodDescriptor "(Ljava/lang/StringBuilder;)V" = some ⟨[(.object "java/lang/StringBuilder")], none⟩ := by decide +kernel
theorem bStS_pn : plainFor bStS.y = true := plainFor_of_name (show plainName "java/lang/String" = true from by first | (simp [plainName, overriddenIn]; done) | decide +kernel)
theorem cStS (l : Launch) (Z : State) (a0 : Array Value) (hw : ∀ d ∈ tables_1, d.before a0 Z = true) (n0 : Nat) (hEW : EW Z a0 consts_1) (a : Addr) (q b : Addr) (cs : List Int32) (N : Nat) (h0 : Heap) (σ : Addr → Prop) (E : Exa Z h0 a Road.SN) (Gc : Fld Z h0 a Road.SN "coder" "B" (.int 0)) (Gv : Fld Z h0 a Road.SN "value" "[B" .null) (S : Road.Sb Z h0 q b cs N) (hn : cs.length < N) (hcap : cs.length ≤ 45) (naq : a ≠ q) (sa : σ a) (cp : Int32) (Hc : Sta Z Z.heap Road.SN "COMPACT_STRINGS" "Z" (.int cp)) (hcp : ¬ cp = 0) :
    Road.Con l Z consts_1 n0 false bStS [] σ #[(.ref a), (.ref q)] h0 (fun v h2 s2 => v = none ∧ Keep h0 h2 [a] ∧ ∃ d, Road.Str Z h2 a d cs ∧ h0.size ≤ d) := by
  refine Road.Con.of bStS_pn hEW #[.val (.ref a), .val (.ref q)] (fun m => Road.ent (Road.laid1 rfl (Road.laid1 rfl Road.laid0)) (k := 0) rfl rfl) ?_
  intro D hD
  refine Road.aloadN 0 bStS_d0 rfl ?_
  refine Road.aloadN 1 bStS_d1 rfl ?_
  refine Road.aconstNull 2 bStS_d2 ?_
  refine Road.callI (B' := bStV) (a := a) 3 (argsL := [(.ref q), .null]) (rest := []) 0 bStS_d3 (wI hw 248 rfl) (wI hw 249 rfl) (wI hw 5 rfl) (wI hw 250 rfl) rfl rfl (by decide) (cStV l Z a0 hw n0 hEW a q b cs N h0 σ E Gc Gv S hn hcap naq sa cp Hc hcp) (lenOf bStV_pd rfl) rfl rfl rfl (by decide) (by decide) (ce' := 1) (sl' := 45) rfl rfl (by decide) (by decide) ?_
  rintro _ h_1 σ_2 m_3 ⟨rfl, K_4, d, T, gd⟩
  exact Road.ret 6 bStS_d6 rfl (by decide) (by decide) (fun σ' m => ⟨rfl, K_4, d, T, gd⟩)
def bToS : Road.Bdy := (⟨"java/lang/StringBuilder", "toString", "()Ljava/lang/String;"⟩, jdk_67_method_42_code, 1, (some (.object "java/lang/String")), { frames := 5, cells := 2, slots := 49, locals := 83 })
theorem bToS_d0 : decode bToS.bs 0 = .ok (.new 18, 3) := by decide +kernel
theorem bToS_d3 : decode bToS.bs 3 = .ok (.dup, 1) := by decide +kernel
theorem bToS_d4 : decode bToS.bs 4 = .ok (.aload_n 0, 1) := by decide +kernel
theorem bToS_d5 : decode bToS.bs 5 = .ok (.invokespecial 137, 3) := by decide +kernel
theorem bToS_d8 : decode bToS.bs 8 = .ok (.areturn, 1) := by decide +kernel
theorem bToS_pd : parseMethodDescriptor "()Ljava/lang/String;" = some ⟨[], (some (.object "java/lang/String"))⟩ := by decide +kernel
theorem bToS_pn : plainFor bToS.y = true := plainFor_of_name (show plainName "java/lang/StringBuilder" = true from by first | (simp [plainName, overriddenIn]; done) | decide +kernel)
theorem cToS (l : Launch) (Z : State) (a0 : Array Value) (hw : ∀ d ∈ tables_1, d.before a0 Z = true) (n0 : Nat) (hEW : EW Z a0 consts_1) (q b : Addr) (cs : List Int32) (N : Nat) (h0 : Heap) (σ : Addr → Prop) (S : Road.Sb Z h0 q b cs N) (hn : cs.length < N) (hcap : cs.length ≤ 45) (cp : Int32) (Hc : Sta Z Z.heap Road.SN "COMPACT_STRINGS" "Z" (.int cp)) (hcp : ¬ cp = 0) :
    Road.Con l Z consts_1 n0 false bToS [] σ #[(.ref q)] h0 (fun v h2 s2 => ∃ a d, v = some (.ref a) ∧ h0.size ≤ a ∧ h0.size ≤ d ∧ Keep h0 h2 [] ∧ Road.Str Z h2 a d cs) := by
  refine Road.Con.of bToS_pn hEW #[.val (.ref q)] (fun m => Road.ent (Road.laid1 rfl Road.laid0) (k := 0) rfl rfl) ?_
  intro D hD
  refine Road.new 0 "java/lang/String" bToS_d0 (wI hw 244 rfl) (wI hw 4 rfl) (wI hw 5 rfl) (ce' := 1) (sl' := 4) rfl rfl (by decide) (by decide) ?_
  intro a h_1 σ_2 g_3 K_4 lt_5 m_6 s_7 E D_8 M_9
  have ne_q_a : q ≠ a := Nat.ne_of_lt (Nat.lt_of_lt_of_le S.lt (Nat.le_of_eq g_3.symm))
  have ne_b_a : b ≠ a := Nat.ne_of_lt (Nat.lt_of_lt_of_le S.ltb (Nat.le_of_eq g_3.symm))
  replace S := S.keep K_4 nin0 nin0
  have Gc := D_8 (Or.inr (wI hw 29 rfl)) (ty := .byte) (by decide)
  have Gv := D_8 (Or.inr (wI hw 31 rfl)) (ty := (.array .byte)) (by decide)
  refine Road.dup 3 bToS_d3 ?_
  refine Road.aloadN 4 bToS_d4 rfl ?_
  refine Road.callI (B' := bStS) (a := a) 5 (argsL := [(.ref q)]) (rest := [(.ref a)]) 1 bToS_d5 (wI hw 245 rfl) (wI hw 246 rfl) (wI hw 5 rfl) (wI hw 247 rfl) rfl rfl (by decide) (cStS l Z a0 hw n0 hEW a q b cs N h_1 σ_2 E Gc Gv S hn hcap (Ne.symm ne_q_a) s_7 cp Hc hcp) (lenOf bStS_pd rfl) rfl rfl rfl (by decide) (by decide) (ce' := 2) (sl' := 49) rfl rfl (by decide) (by decide) ?_
  rintro _ h_10 σ_11 m_12 ⟨rfl, K_13, d, T, gd⟩
  replace s_7 := m_12 _ s_7
  exact Road.aret 8 bToS_d8 (t := (.object "java/lang/String")) rfl rfl rfl (by decide) (by decide) (fun σ' m => ⟨a, d, rfl, Nat.le_of_eq g_3.symm, Nat.le_trans K_4.1 gd, K_4.trans K_13 (by intro x hx; cases List.mem_singleton.mp hx; exact Or.inr (Nat.le_of_eq g_3.symm)), T⟩)
def bCts : Road.Bdy := (⟨"com/example/orderly_tasks/orderlytasks/ConsoleSettings", "toString", "()Ljava/lang/String;"⟩, prog_1_method_3_code, 1, (some (.object "java/lang/String")), { frames := 6, cells := 19, slots := 911, locals := 95 })
theorem bCts_d0 : decode bCts.bs 0 = .ok (.new 33, 3) := by decide +kernel
theorem bCts_d3 : decode bCts.bs 3 = .ok (.dup, 1) := by decide +kernel
theorem bCts_d4 : decode bCts.bs 4 = .ok (.invokespecial 35, 3) := by decide +kernel
theorem bCts_d7 : decode bCts.bs 7 = .ok (.ldc 83, 2) := by decide +kernel
theorem bCts_d9 : decode bCts.bs 9 = .ok (.invokevirtual 38, 3) := by decide +kernel
theorem bCts_d12 : decode bCts.bs 12 = .ok (.aload_n 0, 1) := by decide +kernel
theorem bCts_d13 : decode bCts.bs 13 = .ok (.getfield 64, 3) := by decide +kernel
theorem bCts_d16 : decode bCts.bs 16 = .ok (.invokevirtual 38, 3) := by decide +kernel
theorem bCts_d19 : decode bCts.bs 19 = .ok (.ldc 85, 2) := by decide +kernel
theorem bCts_d21 : decode bCts.bs 21 = .ok (.invokevirtual 38, 3) := by decide +kernel
theorem bCts_d24 : decode bCts.bs 24 = .ok (.aload_n 0, 1) := by decide +kernel
theorem bCts_d25 : decode bCts.bs 25 = .ok (.getfield 67, 3) := by decide +kernel
theorem bCts_d28 : decode bCts.bs 28 = .ok (.invokevirtual 42, 3) := by decide +kernel
theorem bCts_d31 : decode bCts.bs 31 = .ok (.ldc 87, 2) := by decide +kernel
theorem bCts_d33 : decode bCts.bs 33 = .ok (.invokevirtual 38, 3) := by decide +kernel
theorem bCts_d36 : decode bCts.bs 36 = .ok (.aload_n 0, 1) := by decide +kernel
theorem bCts_d37 : decode bCts.bs 37 = .ok (.getfield 71, 3) := by decide +kernel
theorem bCts_d40 : decode bCts.bs 40 = .ok (.invokevirtual 38, 3) := by decide +kernel
theorem bCts_d43 : decode bCts.bs 43 = .ok (.ldc 89, 2) := by decide +kernel
theorem bCts_d45 : decode bCts.bs 45 = .ok (.invokevirtual 38, 3) := by decide +kernel
theorem bCts_d48 : decode bCts.bs 48 = .ok (.invokevirtual 47, 3) := by decide +kernel
theorem bCts_d51 : decode bCts.bs 51 = .ok (.areturn, 1) := by decide +kernel
theorem bCts_pd : parseMethodDescriptor "()Ljava/lang/String;" = some ⟨[], (some (.object "java/lang/String"))⟩ := by decide +kernel
theorem bCts_pn : plainFor bCts.y = true := plainFor_of_name (show plainName "com/example/orderly_tasks/orderlytasks/ConsoleSettings" = true from by first | (simp [plainName, overriddenIn]; done) | decide +kernel)
theorem cCts (l : Launch) (Z : State) (a0 : Array Value) (hw : ∀ d ∈ tables_1, d.before a0 Z = true) (n0 : Nat) (hEW : EW Z a0 consts_1) (o s sb u ub : Addr) (bs us : List Int32) (x : Int32) (h0 : Heap) (σ : Addr → Prop) (F1 : Fld Z h0 o "com/example/orderly_tasks/orderlytasks/ConsoleSettings" "bind" "Ljava/lang/String;" (.ref s)) (F2 : Fld Z h0 o "com/example/orderly_tasks/orderlytasks/ConsoleSettings" "port" "I" (.int x)) (F3 : Fld Z h0 o "com/example/orderly_tasks/orderlytasks/ConsoleSettings" "user" "Ljava/lang/String;" (.ref u)) (T : Road.Str Z h0 s sb bs) (U : Road.Str Z h0 u ub us) (hbs : bs.length ≤ 2) (hus : us.length ≤ 2) (hxd : (Road.dec x).length ≤ 5) (cp : Int32) (Hc : Sta Z Z.heap Road.SN "COMPACT_STRINGS" "Z" (.int cp)) (hcp : ¬ cp = 0) (o1 o2 : Addr) (HO : Sta Z Z.heap "java/lang/Integer" "DigitOnes" "[B" (.ref o1)) (AO : Road.Ary Z Z.heap o1 .byte Road.OnesL) (HT : Sta Z Z.heap "java/lang/Integer" "DigitTens" "[B" (.ref o2)) (AT : Road.Ary Z Z.heap o2 .byte Road.TensL) :
    Road.Con l Z consts_1 n0 false bCts [] σ #[(.ref o)] h0 (fun v h2 s2 => ∃ a d, v = some (.ref a) ∧ Keep h0 h2 [] ∧ Road.Str Z h2 a d ([67, 111, 110, 115, 111, 108, 101, 83, 101, 116, 116, 105, 110, 103, 115, 91, 98, 105, 110, 100, 61] ++ bs ++ [44, 32, 112, 111, 114, 116, 61] ++ Road.dec x ++ [44, 32, 117, 115, 101, 114, 61] ++ us ++ [93])) := by
  have wS : ∀ d ∈ Bundle.stringAtoms, d.before a0 Z = true := fun d hd => hw d ((by decide +kernel : ∀ d ∈ Bundle.stringAtoms, d ∈ tables_1) d hd)
  refine Road.Con.of bCts_pn hEW #[.val (.ref o)] (fun m => Road.ent (Road.laid1 rfl Road.laid0) (k := 0) rfl rfl) ?_
  intro D hD
  have KT := Keep.refl h0 ([] : List Addr)
  refine Road.new 0 "java/lang/StringBuilder" bCts_d0 (wI hw 134 rfl) (wI hw 135 rfl) (wI hw 136 rfl) (ce' := 1) (sl' := 4) rfl rfl (by decide) (by decide) ?_
  intro q h_1 σ_2 g_3 K_4 lt_5 m_6 s_7 Eq D_8 M_9
  have gk_q := Nat.le_trans KT.1 (Nat.le_of_eq g_3.symm)
  have ne_o_q : o ≠ q := Nat.ne_of_lt (Nat.lt_of_lt_of_le F1.lt (Nat.le_of_eq g_3.symm))
  have ne_s_q : s ≠ q := Nat.ne_of_lt (Nat.lt_of_lt_of_le T.lt (Nat.le_of_eq g_3.symm))
  have ne_sb_q : sb ≠ q := Nat.ne_of_lt (Nat.lt_of_lt_of_le T.ltb (Nat.le_of_eq g_3.symm))
  have ne_u_q : u ≠ q := Nat.ne_of_lt (Nat.lt_of_lt_of_le U.lt (Nat.le_of_eq g_3.symm))
  have ne_ub_q : ub ≠ q := Nat.ne_of_lt (Nat.lt_of_lt_of_le U.ltb (Nat.le_of_eq g_3.symm))
  replace KT := KT.trans K_4 (by simp)
  replace F1 := F1.keep K_4 nin0
  replace F2 := F2.keep K_4 nin0
  replace F3 := F3.keep K_4 nin0
  replace T := T.keep K_4 nin0 nin0
  replace U := U.keep K_4 nin0 nin0
  have Fqc := D_8 (Or.inl (wI hw 151 rfl)) (ty := .byte) (by decide)
  have Fqv := D_8 (Or.inl (wI hw 149 rfl)) (ty := (.array .byte)) (by decide)
  have Fqn := D_8 (Or.inl (wI hw 165 rfl)) (ty := .int) (by decide)
  refine Road.dup 3 bCts_d3 ?_
  refine Road.callI (B' := bSbI) (a := q) 4 (argsL := []) (rest := [(.ref q)]) 1 bCts_d4 (wI hw 137 rfl) (wI hw 138 rfl) (wI hw 136 rfl) (wI hw 139 rfl) rfl rfl (by decide) (cSbI l Z a0 hw n0 hEW q h_1 σ_2 Eq Fqc Fqv Fqn s_7 cp Hc hcp) (lenOf bSbI_pd rfl) rfl rfl rfl (by decide) (by decide) (ce' := 2) (sl' := 20) rfl rfl (by decide) (by decide) ?_
  rintro _ h_10 σ_11 m_12 ⟨rfl, K_13, qb, qS, qg, qs, qE⟩
  have gk_qb := Nat.le_trans KT.1 qg
  have ne_o_qb : o ≠ qb := Nat.ne_of_lt (Nat.lt_of_lt_of_le F1.lt qg)
  have ne_s_qb : s ≠ qb := Nat.ne_of_lt (Nat.lt_of_lt_of_le T.lt qg)
  have ne_sb_qb : sb ≠ qb := Nat.ne_of_lt (Nat.lt_of_lt_of_le T.ltb qg)
  have ne_u_qb : u ≠ qb := Nat.ne_of_lt (Nat.lt_of_lt_of_le U.lt qg)
  have ne_ub_qb : ub ≠ qb := Nat.ne_of_lt (Nat.lt_of_lt_of_le U.ltb qg)
  replace KT := KT.trans K_13 (by intro z hz; simp only [List.mem_cons, List.not_mem_nil, or_false] at hz; rcases hz with rfl <;> first | (exact Or.inr (by assumption)) | (simp; done))
  replace F1 := F1.keep K_13 (ninS ne_o_q nin0)
  replace F2 := F2.keep K_13 (ninS ne_o_q nin0)
  replace F3 := F3.keep K_13 (ninS ne_o_q nin0)
  replace T := T.keep K_13 (ninS ne_s_q nin0) (ninS ne_sb_q nin0)
  replace U := U.keep K_13 (ninS ne_u_q nin0) (ninS ne_ub_q nin0)
  replace s_7 := m_12 _ s_7
  refine Road.ldcS 7 "ConsoleSettings[bind=" [(67 : Int32), (111 : Int32), (110 : Int32), (115 : Int32), (111 : Int32), (108 : Int32), (101 : Int32), (83 : Int32), (101 : Int32), (116 : Int32), (116 : Int32), (105 : Int32), (110 : Int32), (103 : Int32), (115 : Int32), (91 : Int32), (98 : Int32), (105 : Int32), (110 : Int32), (100 : Int32), (61 : Int32)] 84 bCts_d7 (wI hw 152 rfl) wS (List.mem_of_getElem? (i := 3) rfl) (by decide) (by decide +kernel) (by decide) (by decide) (by decide) (ce' := 4) (sl' := 108) rfl rfl (by decide) (by decide) ?_
  intro a1 b1 h_15 σ_16 K_17 m_18 S1 q_19 mk_20
  replace s_7 := m_18 _ s_7 qS.lt
  replace qs := m_18 _ qs qS.ltb
  replace KT := KT.trans K_17 (by simp)
  replace F1 := F1.keep K_17 nin0
  replace F2 := F2.keep K_17 nin0
  replace F3 := F3.keep K_17 nin0
  replace T := T.keep K_17 nin0 nin0
  replace U := U.keep K_17 nin0 nin0
  replace qS := qS.keep K_17 nin0 nin0
  replace qE := qE.keep K_17
  have ne_q_a1 : q ≠ a1 := (q_19 q s_7).1
  have ne_q_b1 : q ≠ b1 := (q_19 q s_7).2
  have ne_qb_a1 : qb ≠ a1 := (q_19 qb qs).1
  have ne_qb_b1 : qb ≠ b1 := (q_19 qb qs).2
  have lt_o_qb1 := F1.lt
  have lt_s_qb1 := T.lt
  have lt_sb_qb1 := T.ltb
  have lt_u_qb1 := U.lt
  have lt_ub_qb1 := U.ltb
  have lt_a1_qb1 := S1.lt
  have lt_b1_qb1 := S1.ltb
  have kt_qb1 := KT.1
  refine Road.callV (B' := bSpX) (a := q) 9 (argsL := [(.ref a1)]) (rest := []) "java/lang/StringBuilder" 0 bCts_d9 (wI hw 153 rfl) (wI hw 154 rfl) (fun vm hz => Road.notFace_sib (args := #[]) (mv (s := D.s.setVm vm) hz (wI hw 156 rfl)) rfl) (wI hw 156 rfl) (wI hw 155 rfl) (wI hw 136 rfl) (wI hw 157 rfl) (by decide) qS.1 (cSpX l Z a0 hw n0 hEW q qb ([] : List Int32) 16 a1 b1 [67, 111, 110, 115, 111, 108, 101, 83, 101, 116, 116, 105, 110, 103, 115, 91, 98, 105, 110, 100, 61] h_15 σ_16 qS qE S1 (Or.inr (by simp only [List.length_append, List.length_cons, List.length_nil]; omega)) (Ne.symm ne_q_a1) (Ne.symm ne_q_b1) qs s_7 cp Hc hcp) (lenOf bSpX_pd rfl) rfl rfl rfl (by decide) (by decide) (ce' := 5) (sl' := 178) rfl rfl (by decide) (by decide) ?_
  rintro _ h_21 σ_22 m_23 ⟨rfl, K_24, qb1, Nq1, qS1, qg1, hNq1, qs1, qE1⟩
  replace KT := KT.trans K_24 (by intro z hz; simp only [List.mem_cons, List.not_mem_nil, or_false] at hz; rcases hz with rfl | rfl <;> first | (exact Or.inr (by assumption)) | (simp; done))
  replace F1 := F1.keep K_24 (ninS ne_o_q (ninS ne_o_qb nin0))
  replace F2 := F2.keep K_24 (ninS ne_o_q (ninS ne_o_qb nin0))
  replace F3 := F3.keep K_24 (ninS ne_o_q (ninS ne_o_qb nin0))
  replace T := T.keep K_24 (ninS ne_s_q (ninS ne_s_qb nin0)) (ninS ne_sb_q (ninS ne_sb_qb nin0))
  replace U := U.keep K_24 (ninS ne_u_q (ninS ne_u_qb nin0)) (ninS ne_ub_q (ninS ne_ub_qb nin0))
  replace S1 := S1.keep K_24 (ninS (Ne.symm ne_q_a1) (ninS (Ne.symm ne_qb_a1) nin0)) (ninS (Ne.symm ne_q_b1) (ninS (Ne.symm ne_qb_b1) nin0))
  replace s_7 := m_23 _ s_7
  replace qs := m_23 _ qs
  have ne_o_qb1 : o ≠ qb1 := by rcases qg1 with gz | gz; rw [gz]; exact ne_o_qb; exact Nat.ne_of_lt (Nat.lt_of_lt_of_le lt_o_qb1 gz)
  have ne_s_qb1 : s ≠ qb1 := by rcases qg1 with gz | gz; rw [gz]; exact ne_s_qb; exact Nat.ne_of_lt (Nat.lt_of_lt_of_le lt_s_qb1 gz)
  have ne_sb_qb1 : sb ≠ qb1 := by rcases qg1 with gz | gz; rw [gz]; exact ne_sb_qb; exact Nat.ne_of_lt (Nat.lt_of_lt_of_le lt_sb_qb1 gz)
  have ne_u_qb1 : u ≠ qb1 := by rcases qg1 with gz | gz; rw [gz]; exact ne_u_qb; exact Nat.ne_of_lt (Nat.lt_of_lt_of_le lt_u_qb1 gz)
  have ne_ub_qb1 : ub ≠ qb1 := by rcases qg1 with gz | gz; rw [gz]; exact ne_ub_qb; exact Nat.ne_of_lt (Nat.lt_of_lt_of_le lt_ub_qb1 gz)
  have ne_a1_qb1 : a1 ≠ qb1 := by rcases qg1 with gz | gz; rw [gz]; exact (Ne.symm ne_qb_a1); exact Nat.ne_of_lt (Nat.lt_of_lt_of_le lt_a1_qb1 gz)
  have ne_b1_qb1 : b1 ≠ qb1 := by rcases qg1 with gz | gz; rw [gz]; exact (Ne.symm ne_qb_b1); exact Nat.ne_of_lt (Nat.lt_of_lt_of_le lt_b1_qb1 gz)
  have gk_qb1 : h0.size ≤ qb1 := by rcases qg1 with gz | gz; rw [gz]; exact gk_qb; exact Nat.le_trans kt_qb1 gz
  obtain rfl : Nq1 = 34 := by simp only [List.length_append, List.length_cons, List.length_nil] at hNq1; omega
  refine Road.aloadN 12 bCts_d12 rfl ?_
  refine Road.getfield 13 bCts_d13 (wI hw 121 rfl) Via.refl F1 ?_
  have lt_o_qb2 := F1.lt
  have lt_s_qb2 := T.lt
  have lt_sb_qb2 := T.ltb
  have lt_u_qb2 := U.lt
  have lt_ub_qb2 := U.ltb
  have lt_a1_qb2 := S1.lt
  have lt_b1_qb2 := S1.ltb
  have kt_qb2 := KT.1
  refine Road.callV (B' := bSpX) (a := q) 16 (argsL := [(.ref s)]) (rest := []) "java/lang/StringBuilder" 0 bCts_d16 (wI hw 153 rfl) (wI hw 154 rfl) (fun vm hz => Road.notFace_sib (args := #[]) (mv (s := D.s.setVm vm) hz (wI hw 156 rfl)) rfl) (wI hw 156 rfl) (wI hw 155 rfl) (wI hw 136 rfl) (wI hw 157 rfl) (by decide) qS1.1 (cSpX l Z a0 hw n0 hEW q qb1 (([] : List Int32) ++ [67, 111, 110, 115, 111, 108, 101, 83, 101, 116, 116, 105, 110, 103, 115, 91, 98, 105, 110, 100, 61]) 34 s sb bs h_21 σ_22 qS1 qE1 T (Or.inl (by simp only [List.length_append, List.length_cons, List.length_nil]; omega)) (Ne.symm (Ne.symm ne_s_q)) (Ne.symm (Ne.symm ne_sb_q)) qs1 s_7 cp Hc hcp) (lenOf bSpX_pd rfl) rfl rfl rfl (by decide) (by decide) (ce' := 6) (sl' := 248) rfl rfl (by decide) (by decide) ?_
  rintro _ h_27 σ_28 m_29 ⟨rfl, K_30, qb2, Nq2, qS2, qg2, hNq2, qs2, qE2⟩
  replace KT := KT.trans K_30 (by intro z hz; simp only [List.mem_cons, List.not_mem_nil, or_false] at hz; rcases hz with rfl | rfl <;> first | (exact Or.inr (by assumption)) | (simp; done))
  replace F1 := F1.keep K_30 (ninS ne_o_q (ninS ne_o_qb1 nin0))
  replace F2 := F2.keep K_30 (ninS ne_o_q (ninS ne_o_qb1 nin0))
  replace F3 := F3.keep K_30 (ninS ne_o_q (ninS ne_o_qb1 nin0))
  replace T := T.keep K_30 (ninS ne_s_q (ninS ne_s_qb1 nin0)) (ninS ne_sb_q (ninS ne_sb_qb1 nin0))
  replace U := U.keep K_30 (ninS ne_u_q (ninS ne_u_qb1 nin0)) (ninS ne_ub_q (ninS ne_ub_qb1 nin0))
  replace S1 := S1.keep K_30 (ninS (Ne.symm ne_q_a1) (ninS ne_a1_qb1 nin0)) (ninS (Ne.symm ne_q_b1) (ninS ne_b1_qb1 nin0))
  replace s_7 := m_29 _ s_7
  replace qs1 := m_29 _ qs1
  have ne_o_qb2 : o ≠ qb2 := by rcases qg2 with gz | gz; rw [gz]; exact ne_o_qb1; exact Nat.ne_of_lt (Nat.lt_of_lt_of_le lt_o_qb2 gz)
  have ne_s_qb2 : s ≠ qb2 := by rcases qg2 with gz | gz; rw [gz]; exact ne_s_qb1; exact Nat.ne_of_lt (Nat.lt_of_lt_of_le lt_s_qb2 gz)
  have ne_sb_qb2 : sb ≠ qb2 := by rcases qg2 with gz | gz; rw [gz]; exact ne_sb_qb1; exact Nat.ne_of_lt (Nat.lt_of_lt_of_le lt_sb_qb2 gz)
  have ne_u_qb2 : u ≠ qb2 := by rcases qg2 with gz | gz; rw [gz]; exact ne_u_qb1; exact Nat.ne_of_lt (Nat.lt_of_lt_of_le lt_u_qb2 gz)
  have ne_ub_qb2 : ub ≠ qb2 := by rcases qg2 with gz | gz; rw [gz]; exact ne_ub_qb1; exact Nat.ne_of_lt (Nat.lt_of_lt_of_le lt_ub_qb2 gz)
  have ne_a1_qb2 : a1 ≠ qb2 := by rcases qg2 with gz | gz; rw [gz]; exact ne_a1_qb1; exact Nat.ne_of_lt (Nat.lt_of_lt_of_le lt_a1_qb2 gz)
  have ne_b1_qb2 : b1 ≠ qb2 := by rcases qg2 with gz | gz; rw [gz]; exact ne_b1_qb1; exact Nat.ne_of_lt (Nat.lt_of_lt_of_le lt_b1_qb2 gz)
  have gk_qb2 : h0.size ≤ qb2 := by rcases qg2 with gz | gz; rw [gz]; exact gk_qb1; exact Nat.le_trans kt_qb2 gz
  obtain rfl : Nq2 = 34 := by simp only [List.length_append, List.length_cons, List.length_nil] at hNq2; omega
  refine Road.ldcS 19 ", port=" [(44 : Int32), (32 : Int32), (112 : Int32), (111 : Int32), (114 : Int32), (116 : Int32), (61 : Int32)] 28 bCts_d19 (wI hw 214 rfl) wS (List.mem_of_getElem? (i := 4) rfl) (by decide) (by decide +kernel) (by decide) (by decide) (by decide) (ce' := 8) (sl' := 280) rfl rfl (by decide) (by decide) ?_
  intro a2 b2 h_33 σ_34 K_35 m_36 S2 q_37 mk_38
  replace s_7 := m_36 _ s_7 qS2.lt
  replace qs2 := m_36 _ qs2 qS2.ltb
  replace KT := KT.trans K_35 (by simp)
  replace F1 := F1.keep K_35 nin0
  replace F2 := F2.keep K_35 nin0
  replace F3 := F3.keep K_35 nin0
  replace T := T.keep K_35 nin0 nin0
  replace U := U.keep K_35 nin0 nin0
  replace S1 := S1.keep K_35 nin0 nin0
  replace qS2 := qS2.keep K_35 nin0 nin0
  replace qE2 := qE2.keep K_35
  have ne_q_a2 : q ≠ a2 := (q_37 q s_7).1
  have ne_q_b2 : q ≠ b2 := (q_37 q s_7).2
  have ne_qb2_a2 : qb2 ≠ a2 := (q_37 qb2 qs2).1
  have ne_qb2_b2 : qb2 ≠ b2 := (q_37 qb2 qs2).2
  have lt_o_qb3 := F1.lt
  have lt_s_qb3 := T.lt
  have lt_sb_qb3 := T.ltb
  have lt_u_qb3 := U.lt
  have lt_ub_qb3 := U.ltb
  have lt_a1_qb3 := S1.lt
  have lt_b1_qb3 := S1.ltb
  have lt_a2_qb3 := S2.lt
  have lt_b2_qb3 := S2.ltb
  have kt_qb3 := KT.1
  refine Road.callV (B' := bSpX) (a := q) 21 (argsL := [(.ref a2)]) (rest := []) "java/lang/StringBuilder" 0 bCts_d21 (wI hw 153 rfl) (wI hw 154 rfl) (fun vm hz => Road.notFace_sib (args := #[]) (mv (s := D.s.setVm vm) hz (wI hw 156 rfl)) rfl) (wI hw 156 rfl) (wI hw 155 rfl) (wI hw 136 rfl) (wI hw 157 rfl) (by decide) qS2.1 (cSpX l Z a0 hw n0 hEW q qb2 ((([] : List Int32) ++ [67, 111, 110, 115, 111, 108, 101, 83, 101, 116, 116, 105, 110, 103, 115, 91, 98, 105, 110, 100, 61]) ++ bs) 34 a2 b2 [44, 32, 112, 111, 114, 116, 61] h_33 σ_34 qS2 qE2 S2 (Or.inl (by simp only [List.length_append, List.length_cons, List.length_nil]; omega)) (Ne.symm ne_q_a2) (Ne.symm ne_q_b2) qs2 s_7 cp Hc hcp) (lenOf bSpX_pd rfl) rfl rfl rfl (by decide) (by decide) (ce' := 9) (sl' := 350) rfl rfl (by decide) (by decide) ?_
  rintro _ h_39 σ_40 m_41 ⟨rfl, K_42, qb3, Nq3, qS3, qg3, hNq3, qs3, qE3⟩
  replace KT := KT.trans K_42 (by intro z hz; simp only [List.mem_cons, List.not_mem_nil, or_false] at hz; rcases hz with rfl | rfl <;> first | (exact Or.inr (by assumption)) | (simp; done))
  replace F1 := F1.keep K_42 (ninS ne_o_q (ninS ne_o_qb2 nin0))
  replace F2 := F2.keep K_42 (ninS ne_o_q (ninS ne_o_qb2 nin0))
  replace F3 := F3.keep K_42 (ninS ne_o_q (ninS ne_o_qb2 nin0))
  replace T := T.keep K_42 (ninS ne_s_q (ninS ne_s_qb2 nin0)) (ninS ne_sb_q (ninS ne_sb_qb2 nin0))
  replace U := U.keep K_42 (ninS ne_u_q (ninS ne_u_qb2 nin0)) (ninS ne_ub_q (ninS ne_ub_qb2 nin0))
  replace S1 := S1.keep K_42 (ninS (Ne.symm ne_q_a1) (ninS ne_a1_qb2 nin0)) (ninS (Ne.symm ne_q_b1) (ninS ne_b1_qb2 nin0))
  replace S2 := S2.keep K_42 (ninS (Ne.symm ne_q_a2) (ninS (Ne.symm ne_qb2_a2) nin0)) (ninS (Ne.symm ne_q_b2) (ninS (Ne.symm ne_qb2_b2) nin0))
  replace s_7 := m_41 _ s_7
  replace qs2 := m_41 _ qs2
  have ne_o_qb3 : o ≠ qb3 := by rcases qg3 with gz | gz; rw [gz]; exact ne_o_qb2; exact Nat.ne_of_lt (Nat.lt_of_lt_of_le lt_o_qb3 gz)
  have ne_s_qb3 : s ≠ qb3 := by rcases qg3 with gz | gz; rw [gz]; exact ne_s_qb2; exact Nat.ne_of_lt (Nat.lt_of_lt_of_le lt_s_qb3 gz)
  have ne_sb_qb3 : sb ≠ qb3 := by rcases qg3 with gz | gz; rw [gz]; exact ne_sb_qb2; exact Nat.ne_of_lt (Nat.lt_of_lt_of_le lt_sb_qb3 gz)
  have ne_u_qb3 : u ≠ qb3 := by rcases qg3 with gz | gz; rw [gz]; exact ne_u_qb2; exact Nat.ne_of_lt (Nat.lt_of_lt_of_le lt_u_qb3 gz)
  have ne_ub_qb3 : ub ≠ qb3 := by rcases qg3 with gz | gz; rw [gz]; exact ne_ub_qb2; exact Nat.ne_of_lt (Nat.lt_of_lt_of_le lt_ub_qb3 gz)
  have ne_a1_qb3 : a1 ≠ qb3 := by rcases qg3 with gz | gz; rw [gz]; exact ne_a1_qb2; exact Nat.ne_of_lt (Nat.lt_of_lt_of_le lt_a1_qb3 gz)
  have ne_b1_qb3 : b1 ≠ qb3 := by rcases qg3 with gz | gz; rw [gz]; exact ne_b1_qb2; exact Nat.ne_of_lt (Nat.lt_of_lt_of_le lt_b1_qb3 gz)
  have ne_a2_qb3 : a2 ≠ qb3 := by rcases qg3 with gz | gz; rw [gz]; exact (Ne.symm ne_qb2_a2); exact Nat.ne_of_lt (Nat.lt_of_lt_of_le lt_a2_qb3 gz)
  have ne_b2_qb3 : b2 ≠ qb3 := by rcases qg3 with gz | gz; rw [gz]; exact (Ne.symm ne_qb2_b2); exact Nat.ne_of_lt (Nat.lt_of_lt_of_le lt_b2_qb3 gz)
  have gk_qb3 : h0.size ≤ qb3 := by rcases qg3 with gz | gz; rw [gz]; exact gk_qb2; exact Nat.le_trans kt_qb3 gz
  obtain rfl : Nq3 = 34 := by simp only [List.length_append, List.length_cons, List.length_nil] at hNq3; omega
  refine Road.aloadN 24 bCts_d24 rfl ?_
  refine Road.getfield 25 bCts_d25 (wI hw 123 rfl) Via.refl F2 ?_
  have lt_o_qb4 := F1.lt
  have lt_s_qb4 := T.lt
  have lt_sb_qb4 := T.ltb
  have lt_u_qb4 := U.lt
  have lt_ub_qb4 := U.ltb
  have lt_a1_qb4 := S1.lt
  have lt_b1_qb4 := S1.ltb
  have lt_a2_qb4 := S2.lt
  have lt_b2_qb4 := S2.ltb
  have kt_qb4 := KT.1
  refine Road.callV (B' := bSiX) (a := q) 28 (argsL := [(.int x)]) (rest := []) "java/lang/StringBuilder" 0 bCts_d28 (wI hw 215 rfl) (wI hw 216 rfl) (fun vm hz => Road.notFace_sib (args := #[]) (mv (s := D.s.setVm vm) hz (wI hw 156 rfl)) rfl) (wI hw 218 rfl) (wI hw 217 rfl) (wI hw 136 rfl) (wI hw 219 rfl) (by decide) qS3.1 (cSiX l Z a0 hw n0 hEW q qb3 (((([] : List Int32) ++ [67, 111, 110, 115, 111, 108, 101, 83, 101, 116, 116, 105, 110, 103, 115, 91, 98, 105, 110, 100, 61]) ++ bs) ++ [44, 32, 112, 111, 114, 116, 61]) 34 x h_39 σ_40 qS3 qE3 (Or.inr (by simp only [List.length_append, List.length_cons, List.length_nil]; omega)) qs3 s_7 cp Hc hcp o1 o2 HO AO HT AT) (lenOf bSiX_pd rfl) rfl rfl rfl (by decide) (by decide) (ce' := 10) (sl' := 420) rfl rfl (by decide) (by decide) ?_
  rintro _ h_45 σ_46 m_47 ⟨rfl, K_48, qb4, Nq4, qS4, qg4, hNq4, qs4, qE4⟩
  replace KT := KT.trans K_48 (by intro z hz; simp only [List.mem_cons, List.not_mem_nil, or_false] at hz; rcases hz with rfl | rfl <;> first | (exact Or.inr (by assumption)) | (simp; done))
  replace F1 := F1.keep K_48 (ninS ne_o_q (ninS ne_o_qb3 nin0))
  replace F2 := F2.keep K_48 (ninS ne_o_q (ninS ne_o_qb3 nin0))
  replace F3 := F3.keep K_48 (ninS ne_o_q (ninS ne_o_qb3 nin0))
  replace T := T.keep K_48 (ninS ne_s_q (ninS ne_s_qb3 nin0)) (ninS ne_sb_q (ninS ne_sb_qb3 nin0))
  replace U := U.keep K_48 (ninS ne_u_q (ninS ne_u_qb3 nin0)) (ninS ne_ub_q (ninS ne_ub_qb3 nin0))
  replace S1 := S1.keep K_48 (ninS (Ne.symm ne_q_a1) (ninS ne_a1_qb3 nin0)) (ninS (Ne.symm ne_q_b1) (ninS ne_b1_qb3 nin0))
  replace S2 := S2.keep K_48 (ninS (Ne.symm ne_q_a2) (ninS ne_a2_qb3 nin0)) (ninS (Ne.symm ne_q_b2) (ninS ne_b2_qb3 nin0))
  replace s_7 := m_47 _ s_7
  replace qs3 := m_47 _ qs3
  have ne_o_qb4 : o ≠ qb4 := by rcases qg4 with gz | gz; rw [gz]; exact ne_o_qb3; exact Nat.ne_of_lt (Nat.lt_of_lt_of_le lt_o_qb4 gz)
  have ne_s_qb4 : s ≠ qb4 := by rcases qg4 with gz | gz; rw [gz]; exact ne_s_qb3; exact Nat.ne_of_lt (Nat.lt_of_lt_of_le lt_s_qb4 gz)
  have ne_sb_qb4 : sb ≠ qb4 := by rcases qg4 with gz | gz; rw [gz]; exact ne_sb_qb3; exact Nat.ne_of_lt (Nat.lt_of_lt_of_le lt_sb_qb4 gz)
  have ne_u_qb4 : u ≠ qb4 := by rcases qg4 with gz | gz; rw [gz]; exact ne_u_qb3; exact Nat.ne_of_lt (Nat.lt_of_lt_of_le lt_u_qb4 gz)
  have ne_ub_qb4 : ub ≠ qb4 := by rcases qg4 with gz | gz; rw [gz]; exact ne_ub_qb3; exact Nat.ne_of_lt (Nat.lt_of_lt_of_le lt_ub_qb4 gz)
  have ne_a1_qb4 : a1 ≠ qb4 := by rcases qg4 with gz | gz; rw [gz]; exact ne_a1_qb3; exact Nat.ne_of_lt (Nat.lt_of_lt_of_le lt_a1_qb4 gz)
  have ne_b1_qb4 : b1 ≠ qb4 := by rcases qg4 with gz | gz; rw [gz]; exact ne_b1_qb3; exact Nat.ne_of_lt (Nat.lt_of_lt_of_le lt_b1_qb4 gz)
  have ne_a2_qb4 : a2 ≠ qb4 := by rcases qg4 with gz | gz; rw [gz]; exact ne_a2_qb3; exact Nat.ne_of_lt (Nat.lt_of_lt_of_le lt_a2_qb4 gz)
  have ne_b2_qb4 : b2 ≠ qb4 := by rcases qg4 with gz | gz; rw [gz]; exact ne_b2_qb3; exact Nat.ne_of_lt (Nat.lt_of_lt_of_le lt_b2_qb4 gz)
  have gk_qb4 : h0.size ≤ qb4 := by rcases qg4 with gz | gz; rw [gz]; exact gk_qb3; exact Nat.le_trans kt_qb4 gz
  have hn4 : Nq4 = 34 ∨ Nq4 = 70 := by simp only [List.length_append, List.length_cons, List.length_nil] at hNq4; omega
  refine Road.ldcS 31 ", user=" [(44 : Int32), (32 : Int32), (117 : Int32), (115 : Int32), (101 : Int32), (114 : Int32), (61 : Int32)] 28 bCts_d31 (wI hw 237 rfl) wS (List.mem_of_getElem? (i := 5) rfl) (by decide) (by decide +kernel) (by decide) (by decide) (by decide) (ce' := 12) (sl' := 452) rfl rfl (by decide) (by decide) ?_
  intro a3 b3 h_51 σ_52 K_53 m_54 S3 q_55 mk_56
  replace s_7 := m_54 _ s_7 qS4.lt
  replace qs4 := m_54 _ qs4 qS4.ltb
  replace KT := KT.trans K_53 (by simp)
  replace F1 := F1.keep K_53 nin0
  replace F2 := F2.keep K_53 nin0
  replace F3 := F3.keep K_53 nin0
  replace T := T.keep K_53 nin0 nin0
  replace U := U.keep K_53 nin0 nin0
  replace S1 := S1.keep K_53 nin0 nin0
  replace S2 := S2.keep K_53 nin0 nin0
  replace qS4 := qS4.keep K_53 nin0 nin0
  replace qE4 := qE4.keep K_53
  have ne_q_a3 : q ≠ a3 := (q_55 q s_7).1
  have ne_q_b3 : q ≠ b3 := (q_55 q s_7).2
  have ne_qb4_a3 : qb4 ≠ a3 := (q_55 qb4 qs4).1
  have ne_qb4_b3 : qb4 ≠ b3 := (q_55 qb4 qs4).2
  have lt_o_qb5 := F1.lt
  have lt_s_qb5 := T.lt
  have lt_sb_qb5 := T.ltb
  have lt_u_qb5 := U.lt
  have lt_ub_qb5 := U.ltb
  have lt_a1_qb5 := S1.lt
  have lt_b1_qb5 := S1.ltb
  have lt_a2_qb5 := S2.lt
  have lt_b2_qb5 := S2.ltb
  have lt_a3_qb5 := S3.lt
  have lt_b3_qb5 := S3.ltb
  have kt_qb5 := KT.1
  refine Road.callV (B' := bSpX) (a := q) 33 (argsL := [(.ref a3)]) (rest := []) "java/lang/StringBuilder" 0 bCts_d33 (wI hw 153 rfl) (wI hw 154 rfl) (fun vm hz => Road.notFace_sib (args := #[]) (mv (s := D.s.setVm vm) hz (wI hw 156 rfl)) rfl) (wI hw 156 rfl) (wI hw 155 rfl) (wI hw 136 rfl) (wI hw 157 rfl) (by decide) qS4.1 (cSpX l Z a0 hw n0 hEW q qb4 ((((([] : List Int32) ++ [67, 111, 110, 115, 111, 108, 101, 83, 101, 116, 116, 105, 110, 103, 115, 91, 98, 105, 110, 100, 61]) ++ bs) ++ [44, 32, 112, 111, 114, 116, 61]) ++ Road.dec x) Nq4 a3 b3 [44, 32, 117, 115, 101, 114, 61] h_51 σ_52 qS4 qE4 S3 (by simp only [List.length_append, List.length_cons, List.length_nil]; omega) (Ne.symm ne_q_a3) (Ne.symm ne_q_b3) qs4 s_7 cp Hc hcp) (lenOf bSpX_pd rfl) rfl rfl rfl (by decide) (by decide) (ce' := 13) (sl' := 522) rfl rfl (by decide) (by decide) ?_
  rintro _ h_57 σ_58 m_59 ⟨rfl, K_60, qb5, Nq5, qS5, qg5, hNq5, qs5, qE5⟩
  replace KT := KT.trans K_60 (by intro z hz; simp only [List.mem_cons, List.not_mem_nil, or_false] at hz; rcases hz with rfl | rfl <;> first | (exact Or.inr (by assumption)) | (simp; done))
  replace F1 := F1.keep K_60 (ninS ne_o_q (ninS ne_o_qb4 nin0))
  replace F2 := F2.keep K_60 (ninS ne_o_q (ninS ne_o_qb4 nin0))
  replace F3 := F3.keep K_60 (ninS ne_o_q (ninS ne_o_qb4 nin0))
  replace T := T.keep K_60 (ninS ne_s_q (ninS ne_s_qb4 nin0)) (ninS ne_sb_q (ninS ne_sb_qb4 nin0))
  replace U := U.keep K_60 (ninS ne_u_q (ninS ne_u_qb4 nin0)) (ninS ne_ub_q (ninS ne_ub_qb4 nin0))
  replace S1 := S1.keep K_60 (ninS (Ne.symm ne_q_a1) (ninS ne_a1_qb4 nin0)) (ninS (Ne.symm ne_q_b1) (ninS ne_b1_qb4 nin0))
  replace S2 := S2.keep K_60 (ninS (Ne.symm ne_q_a2) (ninS ne_a2_qb4 nin0)) (ninS (Ne.symm ne_q_b2) (ninS ne_b2_qb4 nin0))
  replace S3 := S3.keep K_60 (ninS (Ne.symm ne_q_a3) (ninS (Ne.symm ne_qb4_a3) nin0)) (ninS (Ne.symm ne_q_b3) (ninS (Ne.symm ne_qb4_b3) nin0))
  replace s_7 := m_59 _ s_7
  replace qs4 := m_59 _ qs4
  have ne_o_qb5 : o ≠ qb5 := by rcases qg5 with gz | gz; rw [gz]; exact ne_o_qb4; exact Nat.ne_of_lt (Nat.lt_of_lt_of_le lt_o_qb5 gz)
  have ne_s_qb5 : s ≠ qb5 := by rcases qg5 with gz | gz; rw [gz]; exact ne_s_qb4; exact Nat.ne_of_lt (Nat.lt_of_lt_of_le lt_s_qb5 gz)
  have ne_sb_qb5 : sb ≠ qb5 := by rcases qg5 with gz | gz; rw [gz]; exact ne_sb_qb4; exact Nat.ne_of_lt (Nat.lt_of_lt_of_le lt_sb_qb5 gz)
  have ne_u_qb5 : u ≠ qb5 := by rcases qg5 with gz | gz; rw [gz]; exact ne_u_qb4; exact Nat.ne_of_lt (Nat.lt_of_lt_of_le lt_u_qb5 gz)
  have ne_ub_qb5 : ub ≠ qb5 := by rcases qg5 with gz | gz; rw [gz]; exact ne_ub_qb4; exact Nat.ne_of_lt (Nat.lt_of_lt_of_le lt_ub_qb5 gz)
  have ne_a1_qb5 : a1 ≠ qb5 := by rcases qg5 with gz | gz; rw [gz]; exact ne_a1_qb4; exact Nat.ne_of_lt (Nat.lt_of_lt_of_le lt_a1_qb5 gz)
  have ne_b1_qb5 : b1 ≠ qb5 := by rcases qg5 with gz | gz; rw [gz]; exact ne_b1_qb4; exact Nat.ne_of_lt (Nat.lt_of_lt_of_le lt_b1_qb5 gz)
  have ne_a2_qb5 : a2 ≠ qb5 := by rcases qg5 with gz | gz; rw [gz]; exact ne_a2_qb4; exact Nat.ne_of_lt (Nat.lt_of_lt_of_le lt_a2_qb5 gz)
  have ne_b2_qb5 : b2 ≠ qb5 := by rcases qg5 with gz | gz; rw [gz]; exact ne_b2_qb4; exact Nat.ne_of_lt (Nat.lt_of_lt_of_le lt_b2_qb5 gz)
  have ne_a3_qb5 : a3 ≠ qb5 := by rcases qg5 with gz | gz; rw [gz]; exact (Ne.symm ne_qb4_a3); exact Nat.ne_of_lt (Nat.lt_of_lt_of_le lt_a3_qb5 gz)
  have ne_b3_qb5 : b3 ≠ qb5 := by rcases qg5 with gz | gz; rw [gz]; exact (Ne.symm ne_qb4_b3); exact Nat.ne_of_lt (Nat.lt_of_lt_of_le lt_b3_qb5 gz)
  have gk_qb5 : h0.size ≤ qb5 := by rcases qg5 with gz | gz; rw [gz]; exact gk_qb4; exact Nat.le_trans kt_qb5 gz
  have hn5 : Nq5 = 34 ∨ Nq5 = 70 := by simp only [List.length_append, List.length_cons, List.length_nil] at hNq5; omega
  refine Road.aloadN 36 bCts_d36 rfl ?_
  refine Road.getfield 37 bCts_d37 (wI hw 125 rfl) Via.refl F3 ?_
  have lt_o_qb6 := F1.lt
  have lt_s_qb6 := T.lt
  have lt_sb_qb6 := T.ltb
  have lt_u_qb6 := U.lt
  have lt_ub_qb6 := U.ltb
  have lt_a1_qb6 := S1.lt
  have lt_b1_qb6 := S1.ltb
  have lt_a2_qb6 := S2.lt
  have lt_b2_qb6 := S2.ltb
  have lt_a3_qb6 := S3.lt
  have lt_b3_qb6 := S3.ltb
  have kt_qb6 := KT.1
  refine Road.callV (B' := bSpX) (a := q) 40 (argsL := [(.ref u)]) (rest := []) "java/lang/StringBuilder" 0 bCts_d40 (wI hw 153 rfl) (wI hw 154 rfl) (fun vm hz => Road.notFace_sib (args := #[]) (mv (s := D.s.setVm vm) hz (wI hw 156 rfl)) rfl) (wI hw 156 rfl) (wI hw 155 rfl) (wI hw 136 rfl) (wI hw 157 rfl) (by decide) qS5.1 (cSpX l Z a0 hw n0 hEW q qb5 (((((([] : List Int32) ++ [67, 111, 110, 115, 111, 108, 101, 83, 101, 116, 116, 105, 110, 103, 115, 91, 98, 105, 110, 100, 61]) ++ bs) ++ [44, 32, 112, 111, 114, 116, 61]) ++ Road.dec x) ++ [44, 32, 117, 115, 101, 114, 61]) Nq5 u ub us h_57 σ_58 qS5 qE5 U (by simp only [List.length_append, List.length_cons, List.length_nil]; omega) (Ne.symm (Ne.symm ne_u_q)) (Ne.symm (Ne.symm ne_ub_q)) qs5 s_7 cp Hc hcp) (lenOf bSpX_pd rfl) rfl rfl rfl (by decide) (by decide) (ce' := 14) (sl' := 592) rfl rfl (by decide) (by decide) ?_
  rintro _ h_63 σ_64 m_65 ⟨rfl, K_66, qb6, Nq6, qS6, qg6, hNq6, qs6, qE6⟩
  replace KT := KT.trans K_66 (by intro z hz; simp only [List.mem_cons, List.not_mem_nil, or_false] at hz; rcases hz with rfl | rfl <;> first | (exact Or.inr (by assumption)) | (simp; done))
  replace F1 := F1.keep K_66 (ninS ne_o_q (ninS ne_o_qb5 nin0))
  replace F2 := F2.keep K_66 (ninS ne_o_q (ninS ne_o_qb5 nin0))
  replace F3 := F3.keep K_66 (ninS ne_o_q (ninS ne_o_qb5 nin0))
  replace T := T.keep K_66 (ninS ne_s_q (ninS ne_s_qb5 nin0)) (ninS ne_sb_q (ninS ne_sb_qb5 nin0))
  replace U := U.keep K_66 (ninS ne_u_q (ninS ne_u_qb5 nin0)) (ninS ne_ub_q (ninS ne_ub_qb5 nin0))
  replace S1 := S1.keep K_66 (ninS (Ne.symm ne_q_a1) (ninS ne_a1_qb5 nin0)) (ninS (Ne.symm ne_q_b1) (ninS ne_b1_qb5 nin0))
  replace S2 := S2.keep K_66 (ninS (Ne.symm ne_q_a2) (ninS ne_a2_qb5 nin0)) (ninS (Ne.symm ne_q_b2) (ninS ne_b2_qb5 nin0))
  replace S3 := S3.keep K_66 (ninS (Ne.symm ne_q_a3) (ninS ne_a3_qb5 nin0)) (ninS (Ne.symm ne_q_b3) (ninS ne_b3_qb5 nin0))
  replace s_7 := m_65 _ s_7
  replace qs5 := m_65 _ qs5
  have ne_o_qb6 : o ≠ qb6 := by rcases qg6 with gz | gz; rw [gz]; exact ne_o_qb5; exact Nat.ne_of_lt (Nat.lt_of_lt_of_le lt_o_qb6 gz)
  have ne_s_qb6 : s ≠ qb6 := by rcases qg6 with gz | gz; rw [gz]; exact ne_s_qb5; exact Nat.ne_of_lt (Nat.lt_of_lt_of_le lt_s_qb6 gz)
  have ne_sb_qb6 : sb ≠ qb6 := by rcases qg6 with gz | gz; rw [gz]; exact ne_sb_qb5; exact Nat.ne_of_lt (Nat.lt_of_lt_of_le lt_sb_qb6 gz)
  have ne_u_qb6 : u ≠ qb6 := by rcases qg6 with gz | gz; rw [gz]; exact ne_u_qb5; exact Nat.ne_of_lt (Nat.lt_of_lt_of_le lt_u_qb6 gz)
  have ne_ub_qb6 : ub ≠ qb6 := by rcases qg6 with gz | gz; rw [gz]; exact ne_ub_qb5; exact Nat.ne_of_lt (Nat.lt_of_lt_of_le lt_ub_qb6 gz)
  have ne_a1_qb6 : a1 ≠ qb6 := by rcases qg6 with gz | gz; rw [gz]; exact ne_a1_qb5; exact Nat.ne_of_lt (Nat.lt_of_lt_of_le lt_a1_qb6 gz)
  have ne_b1_qb6 : b1 ≠ qb6 := by rcases qg6 with gz | gz; rw [gz]; exact ne_b1_qb5; exact Nat.ne_of_lt (Nat.lt_of_lt_of_le lt_b1_qb6 gz)
  have ne_a2_qb6 : a2 ≠ qb6 := by rcases qg6 with gz | gz; rw [gz]; exact ne_a2_qb5; exact Nat.ne_of_lt (Nat.lt_of_lt_of_le lt_a2_qb6 gz)
  have ne_b2_qb6 : b2 ≠ qb6 := by rcases qg6 with gz | gz; rw [gz]; exact ne_b2_qb5; exact Nat.ne_of_lt (Nat.lt_of_lt_of_le lt_b2_qb6 gz)
  have ne_a3_qb6 : a3 ≠ qb6 := by rcases qg6 with gz | gz; rw [gz]; exact ne_a3_qb5; exact Nat.ne_of_lt (Nat.lt_of_lt_of_le lt_a3_qb6 gz)
  have ne_b3_qb6 : b3 ≠ qb6 := by rcases qg6 with gz | gz; rw [gz]; exact ne_b3_qb5; exact Nat.ne_of_lt (Nat.lt_of_lt_of_le lt_b3_qb6 gz)
  have gk_qb6 : h0.size ≤ qb6 := by rcases qg6 with gz | gz; rw [gz]; exact gk_qb5; exact Nat.le_trans kt_qb6 gz
  have hn6 : Nq6 = 34 ∨ Nq6 = 70 := by simp only [List.length_append, List.length_cons, List.length_nil] at hNq6; omega
  refine Road.ldcS 43 "]" [(93 : Int32)] 4 bCts_d43 (wI hw 238 rfl) wS (List.mem_of_getElem? (i := 6) rfl) (by decide) (by decide +kernel) (by decide) (by decide) (by decide) (ce' := 16) (sl' := 600) rfl rfl (by decide) (by decide) ?_
  intro a4 b4 h_69 σ_70 K_71 m_72 S4 q_73 mk_74
  replace s_7 := m_72 _ s_7 qS6.lt
  replace qs6 := m_72 _ qs6 qS6.ltb
  replace KT := KT.trans K_71 (by simp)
  replace F1 := F1.keep K_71 nin0
  replace F2 := F2.keep K_71 nin0
  replace F3 := F3.keep K_71 nin0
  replace T := T.keep K_71 nin0 nin0
  replace U := U.keep K_71 nin0 nin0
  replace S1 := S1.keep K_71 nin0 nin0
  replace S2 := S2.keep K_71 nin0 nin0
  replace S3 := S3.keep K_71 nin0 nin0
  replace qS6 := qS6.keep K_71 nin0 nin0
  replace qE6 := qE6.keep K_71
  have ne_q_a4 : q ≠ a4 := (q_73 q s_7).1
  have ne_q_b4 : q ≠ b4 := (q_73 q s_7).2
  have ne_qb6_a4 : qb6 ≠ a4 := (q_73 qb6 qs6).1
  have ne_qb6_b4 : qb6 ≠ b4 := (q_73 qb6 qs6).2
  have lt_o_qb7 := F1.lt
  have lt_s_qb7 := T.lt
  have lt_sb_qb7 := T.ltb
  have lt_u_qb7 := U.lt
  have lt_ub_qb7 := U.ltb
  have lt_a1_qb7 := S1.lt
  have lt_b1_qb7 := S1.ltb
  have lt_a2_qb7 := S2.lt
  have lt_b2_qb7 := S2.ltb
  have lt_a3_qb7 := S3.lt
  have lt_b3_qb7 := S3.ltb
  have lt_a4_qb7 := S4.lt
  have lt_b4_qb7 := S4.ltb
  have kt_qb7 := KT.1
  refine Road.callV (B' := bSpX) (a := q) 45 (argsL := [(.ref a4)]) (rest := []) "java/lang/StringBuilder" 0 bCts_d45 (wI hw 153 rfl) (wI hw 154 rfl) (fun vm hz => Road.notFace_sib (args := #[]) (mv (s := D.s.setVm vm) hz (wI hw 156 rfl)) rfl) (wI hw 156 rfl) (wI hw 155 rfl) (wI hw 136 rfl) (wI hw 157 rfl) (by decide) qS6.1 (cSpX l Z a0 hw n0 hEW q qb6 ((((((([] : List Int32) ++ [67, 111, 110, 115, 111, 108, 101, 83, 101, 116, 116, 105, 110, 103, 115, 91, 98, 105, 110, 100, 61]) ++ bs) ++ [44, 32, 112, 111, 114, 116, 61]) ++ Road.dec x) ++ [44, 32, 117, 115, 101, 114, 61]) ++ us) Nq6 a4 b4 [93] h_69 σ_70 qS6 qE6 S4 (by simp only [List.length_append, List.length_cons, List.length_nil]; omega) (Ne.symm ne_q_a4) (Ne.symm ne_q_b4) qs6 s_7 cp Hc hcp) (lenOf bSpX_pd rfl) rfl rfl rfl (by decide) (by decide) (ce' := 17) (sl' := 670) rfl rfl (by decide) (by decide) ?_
  rintro _ h_75 σ_76 m_77 ⟨rfl, K_78, qb7, Nq7, qS7, qg7, hNq7, qs7, qE7⟩
  replace KT := KT.trans K_78 (by intro z hz; simp only [List.mem_cons, List.not_mem_nil, or_false] at hz; rcases hz with rfl | rfl <;> first | (exact Or.inr (by assumption)) | (simp; done))
  replace F1 := F1.keep K_78 (ninS ne_o_q (ninS ne_o_qb6 nin0))
  replace F2 := F2.keep K_78 (ninS ne_o_q (ninS ne_o_qb6 nin0))
  replace F3 := F3.keep K_78 (ninS ne_o_q (ninS ne_o_qb6 nin0))
  replace T := T.keep K_78 (ninS ne_s_q (ninS ne_s_qb6 nin0)) (ninS ne_sb_q (ninS ne_sb_qb6 nin0))
  replace U := U.keep K_78 (ninS ne_u_q (ninS ne_u_qb6 nin0)) (ninS ne_ub_q (ninS ne_ub_qb6 nin0))
  replace S1 := S1.keep K_78 (ninS (Ne.symm ne_q_a1) (ninS ne_a1_qb6 nin0)) (ninS (Ne.symm ne_q_b1) (ninS ne_b1_qb6 nin0))
  replace S2 := S2.keep K_78 (ninS (Ne.symm ne_q_a2) (ninS ne_a2_qb6 nin0)) (ninS (Ne.symm ne_q_b2) (ninS ne_b2_qb6 nin0))
  replace S3 := S3.keep K_78 (ninS (Ne.symm ne_q_a3) (ninS ne_a3_qb6 nin0)) (ninS (Ne.symm ne_q_b3) (ninS ne_b3_qb6 nin0))
  replace S4 := S4.keep K_78 (ninS (Ne.symm ne_q_a4) (ninS (Ne.symm ne_qb6_a4) nin0)) (ninS (Ne.symm ne_q_b4) (ninS (Ne.symm ne_qb6_b4) nin0))
  replace s_7 := m_77 _ s_7
  replace qs6 := m_77 _ qs6
  have ne_o_qb7 : o ≠ qb7 := by rcases qg7 with gz | gz; rw [gz]; exact ne_o_qb6; exact Nat.ne_of_lt (Nat.lt_of_lt_of_le lt_o_qb7 gz)
  have ne_s_qb7 : s ≠ qb7 := by rcases qg7 with gz | gz; rw [gz]; exact ne_s_qb6; exact Nat.ne_of_lt (Nat.lt_of_lt_of_le lt_s_qb7 gz)
  have ne_sb_qb7 : sb ≠ qb7 := by rcases qg7 with gz | gz; rw [gz]; exact ne_sb_qb6; exact Nat.ne_of_lt (Nat.lt_of_lt_of_le lt_sb_qb7 gz)
  have ne_u_qb7 : u ≠ qb7 := by rcases qg7 with gz | gz; rw [gz]; exact ne_u_qb6; exact Nat.ne_of_lt (Nat.lt_of_lt_of_le lt_u_qb7 gz)
  have ne_ub_qb7 : ub ≠ qb7 := by rcases qg7 with gz | gz; rw [gz]; exact ne_ub_qb6; exact Nat.ne_of_lt (Nat.lt_of_lt_of_le lt_ub_qb7 gz)
  have ne_a1_qb7 : a1 ≠ qb7 := by rcases qg7 with gz | gz; rw [gz]; exact ne_a1_qb6; exact Nat.ne_of_lt (Nat.lt_of_lt_of_le lt_a1_qb7 gz)
  have ne_b1_qb7 : b1 ≠ qb7 := by rcases qg7 with gz | gz; rw [gz]; exact ne_b1_qb6; exact Nat.ne_of_lt (Nat.lt_of_lt_of_le lt_b1_qb7 gz)
  have ne_a2_qb7 : a2 ≠ qb7 := by rcases qg7 with gz | gz; rw [gz]; exact ne_a2_qb6; exact Nat.ne_of_lt (Nat.lt_of_lt_of_le lt_a2_qb7 gz)
  have ne_b2_qb7 : b2 ≠ qb7 := by rcases qg7 with gz | gz; rw [gz]; exact ne_b2_qb6; exact Nat.ne_of_lt (Nat.lt_of_lt_of_le lt_b2_qb7 gz)
  have ne_a3_qb7 : a3 ≠ qb7 := by rcases qg7 with gz | gz; rw [gz]; exact ne_a3_qb6; exact Nat.ne_of_lt (Nat.lt_of_lt_of_le lt_a3_qb7 gz)
  have ne_b3_qb7 : b3 ≠ qb7 := by rcases qg7 with gz | gz; rw [gz]; exact ne_b3_qb6; exact Nat.ne_of_lt (Nat.lt_of_lt_of_le lt_b3_qb7 gz)
  have ne_a4_qb7 : a4 ≠ qb7 := by rcases qg7 with gz | gz; rw [gz]; exact (Ne.symm ne_qb6_a4); exact Nat.ne_of_lt (Nat.lt_of_lt_of_le lt_a4_qb7 gz)
  have ne_b4_qb7 : b4 ≠ qb7 := by rcases qg7 with gz | gz; rw [gz]; exact (Ne.symm ne_qb6_b4); exact Nat.ne_of_lt (Nat.lt_of_lt_of_le lt_b4_qb7 gz)
  have gk_qb7 : h0.size ≤ qb7 := by rcases qg7 with gz | gz; rw [gz]; exact gk_qb6; exact Nat.le_trans kt_qb7 gz
  obtain rfl : Nq7 = 70 := by simp only [List.length_append, List.length_cons, List.length_nil] at hNq7; omega
  refine Road.callV (B' := bToS) (a := q) 48 (argsL := []) (rest := []) "java/lang/StringBuilder" 0 bCts_d48 (wI hw 239 rfl) (wI hw 240 rfl) (fun vm hz => Road.notFace_sib (args := #[]) (mv (s := D.s.setVm vm) hz (wI hw 156 rfl)) rfl) (wI hw 242 rfl) (wI hw 241 rfl) (wI hw 136 rfl) (wI hw 243 rfl) (by decide) qS7.1 (cToS l Z a0 hw n0 hEW q qb7 (((((((([] : List Int32) ++ [67, 111, 110, 115, 111, 108, 101, 83, 101, 116, 116, 105, 110, 103, 115, 91, 98, 105, 110, 100, 61]) ++ bs) ++ [44, 32, 112, 111, 114, 116, 61]) ++ Road.dec x) ++ [44, 32, 117, 115, 101, 114, 61]) ++ us) ++ [93]) 70 h_75 σ_76 qS7 (by simp only [List.length_append, List.length_cons, List.length_nil]; omega) (by simp only [List.length_append, List.length_cons, List.length_nil]; omega) cp Hc hcp) (lenOf bToS_pd rfl) rfl rfl rfl (by decide) (by decide) (ce' := 19) (sl' := 719) rfl rfl (by decide) (by decide) ?_
  rintro _ h_81 σ_82 m_83 ⟨a, d, rfl, ga, gd, K_84, M⟩
  replace KT := KT.trans K_84 (by simp)
  replace s_7 := m_83 _ s_7
  replace qs7 := m_83 _ qs7
  exact Road.aret 51 bCts_d51 (t := (.object "java/lang/String")) rfl rfl rfl (by decide) (by decide) (fun σ' m => ⟨a, d, rfl, KT, M⟩)
def bDig : Road.Bdy := (⟨"com/example/orderly_tasks/orderlytasks/ConsoleSettingsToStringPinLaw", "digits", "(I)I"⟩, method_3_code, 1, (some .int), { frames := 0, cells := 0, slots := 0, locals := 0 })
theorem bDig_d0 : decode bDig.bs 0 = .ok (.iload_n 0, 1) := by decide +kernel
theorem bDig_d1 : decode bDig.bs 1 = .ok (.bipush 10, 2) := by decide +kernel
theorem bDig_d3 : decode bDig.bs 3 = .ok (.if_icmp .ge 5, 3) := by decide +kernel
theorem bDig_d6 : decode bDig.bs 6 = .ok (.iconst 1, 1) := by decide +kernel
theorem bDig_d7 : decode bDig.bs 7 = .ok (.ireturn, 1) := by decide +kernel
theorem bDig_d8 : decode bDig.bs 8 = .ok (.iload_n 0, 1) := by decide +kernel
theorem bDig_d9 : decode bDig.bs 9 = .ok (.bipush 100, 2) := by decide +kernel
theorem bDig_d11 : decode bDig.bs 11 = .ok (.if_icmp .ge 5, 3) := by decide +kernel
theorem bDig_d14 : decode bDig.bs 14 = .ok (.iconst 2, 1) := by decide +kernel
theorem bDig_d15 : decode bDig.bs 15 = .ok (.ireturn, 1) := by decide +kernel
theorem bDig_d16 : decode bDig.bs 16 = .ok (.iload_n 0, 1) := by decide +kernel
theorem bDig_d17 : decode bDig.bs 17 = .ok (.sipush 1000, 3) := by decide +kernel
theorem bDig_d20 : decode bDig.bs 20 = .ok (.if_icmp .ge 5, 3) := by decide +kernel
theorem bDig_d23 : decode bDig.bs 23 = .ok (.iconst 3, 1) := by decide +kernel
theorem bDig_d24 : decode bDig.bs 24 = .ok (.ireturn, 1) := by decide +kernel
theorem bDig_d25 : decode bDig.bs 25 = .ok (.iload_n 0, 1) := by decide +kernel
theorem bDig_d26 : decode bDig.bs 26 = .ok (.sipush 10000, 3) := by decide +kernel
theorem bDig_d29 : decode bDig.bs 29 = .ok (.if_icmp .ge 5, 3) := by decide +kernel
theorem bDig_d32 : decode bDig.bs 32 = .ok (.iconst 4, 1) := by decide +kernel
theorem bDig_d33 : decode bDig.bs 33 = .ok (.ireturn, 1) := by decide +kernel
theorem bDig_d34 : decode bDig.bs 34 = .ok (.iconst 5, 1) := by decide +kernel
theorem bDig_d35 : decode bDig.bs 35 = .ok (.ireturn, 1) := by decide +kernel
theorem bDig_pd : parseMethodDescriptor "(I)I" = some ⟨[.int], (some .int)⟩ := by decide +kernel
theorem bDig_pn : plainFor bDig.y = true := plainFor_of_name (show plainName "com/example/orderly_tasks/orderlytasks/ConsoleSettingsToStringPinLaw" = true from by first | (simp [plainName, overriddenIn]; done) | decide +kernel)
theorem cDig (l : Launch) (Z : State) (a0 : Array Value) (hw : ∀ d ∈ tables_1, d.before a0 Z = true) (n0 : Nat) (hEW : EW Z a0 consts_1) (m : Nat) (h0 : Heap) (σ : Addr → Prop) (hm : m < 65536) :
    Road.Con l Z consts_1 n0 false bDig [] σ #[(.int (Nat.toInt32 m))] h0 (fun v h2 _ => v = some (.int (Nat.toInt32 (Road.decN m).length)) ∧ h0 = h2) := by
  refine Road.Con.of bDig_pn hEW #[.val (.int (Nat.toInt32 m))] (fun m => Road.ent (Road.laid1 rfl Road.laid0) (k := 0) rfl rfl) ?_
  intro D hD
  have hcs : m < 10 ∨ (10 ≤ m ∧ m < 100) ∨ (100 ≤ m ∧ m < 1000) ∨ (1000 ≤ m ∧ m < 10000) ∨ 10000 ≤ m := by omega
  rcases hcs with hq | hq | hq | hq | hq
  · skip
    have hlen := Road.decN_len 0 m (by omega) (Or.inl rfl)
    refine Road.iloadN 0 bDig_d0 rfl ?_
    refine Road.bipush 1 (10 : Int32) bDig_d1 rfl ?_
    refine Road.icmp_ge 3 8 bDig_d3 rfl (fun q => absurd q (by rw [Decidable.not_not, show (10 : Int32) = Nat.toInt32 10 from rfl, Road.lt32 (by omega) (by omega)]; omega)) (fun hc3 => ?_)
    refine Road.iconst 6 (1 : Int32) bDig_d6 rfl ?_
    exact Road.iretI 7 bDig_d7 rfl (by decide) (by decide) (fun σ' m => ⟨by rw [hlen]; rfl, rfl⟩)
  · skip
    have hlen := Road.decN_len 1 m (by omega) (Or.inr (by omega))
    refine Road.iloadN 0 bDig_d0 rfl ?_
    refine Road.bipush 1 (10 : Int32) bDig_d1 rfl ?_
    refine Road.icmp_ge 3 8 bDig_d3 rfl (fun hc3 => ?_) (fun q => absurd q (by rw [show (10 : Int32) = Nat.toInt32 10 from rfl, Road.lt32 (by omega) (by omega)]; omega))
    refine Road.iloadN 8 bDig_d8 rfl ?_
    refine Road.bipush 9 (100 : Int32) bDig_d9 rfl ?_
    refine Road.icmp_ge 11 16 bDig_d11 rfl (fun q => absurd q (by rw [Decidable.not_not, show (100 : Int32) = Nat.toInt32 100 from rfl, Road.lt32 (by omega) (by omega)]; omega)) (fun hc11 => ?_)
    refine Road.iconst 14 (2 : Int32) bDig_d14 rfl ?_
    exact Road.iretI 15 bDig_d15 rfl (by decide) (by decide) (fun σ' m => ⟨by rw [hlen]; rfl, rfl⟩)
  · skip
    have hlen := Road.decN_len 2 m (by omega) (Or.inr (by omega))
    refine Road.iloadN 0 bDig_d0 rfl ?_
    refine Road.bipush 1 (10 : Int32) bDig_d1 rfl ?_
    refine Road.icmp_ge 3 8 bDig_d3 rfl (fun hc3 => ?_) (fun q => absurd q (by rw [show (10 : Int32) = Nat.toInt32 10 from rfl, Road.lt32 (by omega) (by omega)]; omega))
    refine Road.iloadN 8 bDig_d8 rfl ?_
    refine Road.bipush 9 (100 : Int32) bDig_d9 rfl ?_
    refine Road.icmp_ge 11 16 bDig_d11 rfl (fun hc11 => ?_) (fun q => absurd q (by rw [show (100 : Int32) = Nat.toInt32 100 from rfl, Road.lt32 (by omega) (by omega)]; omega))
    refine Road.iloadN 16 bDig_d16 rfl ?_
    refine Road.sipush 17 (1000 : Int32) bDig_d17 rfl ?_
    refine Road.icmp_ge 20 25 bDig_d20 rfl (fun q => absurd q (by rw [Decidable.not_not, show (1000 : Int32) = Nat.toInt32 1000 from rfl, Road.lt32 (by omega) (by omega)]; omega)) (fun hc20 => ?_)
    refine Road.iconst 23 (3 : Int32) bDig_d23 rfl ?_
    exact Road.iretI 24 bDig_d24 rfl (by decide) (by decide) (fun σ' m => ⟨by rw [hlen]; rfl, rfl⟩)
  · skip
    have hlen := Road.decN_len 3 m (by omega) (Or.inr (by omega))
    refine Road.iloadN 0 bDig_d0 rfl ?_
    refine Road.bipush 1 (10 : Int32) bDig_d1 rfl ?_
    refine Road.icmp_ge 3 8 bDig_d3 rfl (fun hc3 => ?_) (fun q => absurd q (by rw [show (10 : Int32) = Nat.toInt32 10 from rfl, Road.lt32 (by omega) (by omega)]; omega))
    refine Road.iloadN 8 bDig_d8 rfl ?_
    refine Road.bipush 9 (100 : Int32) bDig_d9 rfl ?_
    refine Road.icmp_ge 11 16 bDig_d11 rfl (fun hc11 => ?_) (fun q => absurd q (by rw [show (100 : Int32) = Nat.toInt32 100 from rfl, Road.lt32 (by omega) (by omega)]; omega))
    refine Road.iloadN 16 bDig_d16 rfl ?_
    refine Road.sipush 17 (1000 : Int32) bDig_d17 rfl ?_
    refine Road.icmp_ge 20 25 bDig_d20 rfl (fun hc20 => ?_) (fun q => absurd q (by rw [show (1000 : Int32) = Nat.toInt32 1000 from rfl, Road.lt32 (by omega) (by omega)]; omega))
    refine Road.iloadN 25 bDig_d25 rfl ?_
    refine Road.sipush 26 (10000 : Int32) bDig_d26 rfl ?_
    refine Road.icmp_ge 29 34 bDig_d29 rfl (fun q => absurd q (by rw [Decidable.not_not, show (10000 : Int32) = Nat.toInt32 10000 from rfl, Road.lt32 (by omega) (by omega)]; omega)) (fun hc29 => ?_)
    refine Road.iconst 32 (4 : Int32) bDig_d32 rfl ?_
    exact Road.iretI 33 bDig_d33 rfl (by decide) (by decide) (fun σ' m => ⟨by rw [hlen]; rfl, rfl⟩)
  · skip
    have hlen := Road.decN_len 4 m (by omega) (Or.inr (by omega))
    refine Road.iloadN 0 bDig_d0 rfl ?_
    refine Road.bipush 1 (10 : Int32) bDig_d1 rfl ?_
    refine Road.icmp_ge 3 8 bDig_d3 rfl (fun hc3 => ?_) (fun q => absurd q (by rw [show (10 : Int32) = Nat.toInt32 10 from rfl, Road.lt32 (by omega) (by omega)]; omega))
    refine Road.iloadN 8 bDig_d8 rfl ?_
    refine Road.bipush 9 (100 : Int32) bDig_d9 rfl ?_
    refine Road.icmp_ge 11 16 bDig_d11 rfl (fun hc11 => ?_) (fun q => absurd q (by rw [show (100 : Int32) = Nat.toInt32 100 from rfl, Road.lt32 (by omega) (by omega)]; omega))
    refine Road.iloadN 16 bDig_d16 rfl ?_
    refine Road.sipush 17 (1000 : Int32) bDig_d17 rfl ?_
    refine Road.icmp_ge 20 25 bDig_d20 rfl (fun hc20 => ?_) (fun q => absurd q (by rw [show (1000 : Int32) = Nat.toInt32 1000 from rfl, Road.lt32 (by omega) (by omega)]; omega))
    refine Road.iloadN 25 bDig_d25 rfl ?_
    refine Road.sipush 26 (10000 : Int32) bDig_d26 rfl ?_
    refine Road.icmp_ge 29 34 bDig_d29 rfl (fun hc29 => ?_) (fun q => absurd q (by rw [show (10000 : Int32) = Nat.toInt32 10000 from rfl, Road.lt32 (by omega) (by omega)]; omega))
    refine Road.iconst 34 (5 : Int32) bDig_d34 rfl ?_
    exact Road.iretI 35 bDig_d35 rfl (by decide) (by decide) (fun σ' m => ⟨by rw [hlen]; rfl, rfl⟩)
def bPow : Road.Bdy := (⟨"com/example/orderly_tasks/orderlytasks/ConsoleSettingsToStringPinLaw", "pow10", "(I)I"⟩, method_4_code, 1, (some .int), { frames := 0, cells := 0, slots := 0, locals := 0 })
theorem bPow_d0 : decode bPow.bs 0 = .ok (.iload_n 0, 1) := by decide +kernel
theorem bPow_d1 : decode bPow.bs 1 = .ok (.ifCond .ne 5, 3) := by decide +kernel
theorem bPow_d4 : decode bPow.bs 4 = .ok (.iconst 1, 1) := by decide +kernel
theorem bPow_d5 : decode bPow.bs 5 = .ok (.ireturn, 1) := by decide +kernel
theorem bPow_d6 : decode bPow.bs 6 = .ok (.iload_n 0, 1) := by decide +kernel
theorem bPow_d7 : decode bPow.bs 7 = .ok (.iconst 1, 1) := by decide +kernel
theorem bPow_d8 : decode bPow.bs 8 = .ok (.if_icmp .ne 6, 3) := by decide +kernel
theorem bPow_d11 : decode bPow.bs 11 = .ok (.bipush 10, 2) := by decide +kernel
theorem bPow_d13 : decode bPow.bs 13 = .ok (.ireturn, 1) := by decide +kernel
theorem bPow_d14 : decode bPow.bs 14 = .ok (.iload_n 0, 1) := by decide +kernel
theorem bPow_d15 : decode bPow.bs 15 = .ok (.iconst 2, 1) := by decide +kernel
theorem bPow_d16 : decode bPow.bs 16 = .ok (.if_icmp .ne 6, 3) := by decide +kernel
theorem bPow_d19 : decode bPow.bs 19 = .ok (.bipush 100, 2) := by decide +kernel
theorem bPow_d21 : decode bPow.bs 21 = .ok (.ireturn, 1) := by decide +kernel
theorem bPow_d22 : decode bPow.bs 22 = .ok (.iload_n 0, 1) := by decide +kernel
theorem bPow_d23 : decode bPow.bs 23 = .ok (.iconst 3, 1) := by decide +kernel
theorem bPow_d24 : decode bPow.bs 24 = .ok (.if_icmp .ne 7, 3) := by decide +kernel
theorem bPow_d27 : decode bPow.bs 27 = .ok (.sipush 1000, 3) := by decide +kernel
theorem bPow_d30 : decode bPow.bs 30 = .ok (.ireturn, 1) := by decide +kernel
theorem bPow_d31 : decode bPow.bs 31 = .ok (.sipush 10000, 3) := by decide +kernel
theorem bPow_d34 : decode bPow.bs 34 = .ok (.ireturn, 1) := by decide +kernel
theorem bPow_pd : parseMethodDescriptor "(I)I" = some ⟨[.int], (some .int)⟩ := by decide +kernel
theorem bPow_pn : plainFor bPow.y = true := plainFor_of_name (show plainName "com/example/orderly_tasks/orderlytasks/ConsoleSettingsToStringPinLaw" = true from by first | (simp [plainName, overriddenIn]; done) | decide +kernel)
theorem cPow (l : Launch) (Z : State) (a0 : Array Value) (hw : ∀ d ∈ tables_1, d.before a0 Z = true) (n0 : Nat) (hEW : EW Z a0 consts_1) (k : Nat) (h0 : Heap) (σ : Addr → Prop) (hk : k < 5) :
    Road.Con l Z consts_1 n0 false bPow [] σ #[(.int (Nat.toInt32 k))] h0 (fun v h2 _ => v = some (.int (Nat.toInt32 (10 ^ k))) ∧ h0 = h2) := by
  refine Road.Con.of bPow_pn hEW #[.val (.int (Nat.toInt32 k))] (fun m => Road.ent (Road.laid1 rfl Road.laid0) (k := 0) rfl rfl) ?_
  intro D hD
  have hcs : k = 0 ∨ k = 1 ∨ k = 2 ∨ k = 3 ∨ k = 4 := by omega
  rcases hcs with rfl | rfl | rfl | rfl | rfl
  · skip
    refine Road.iloadN 0 bPow_d0 rfl ?_
    refine Road.if_ne 1 6 bPow_d1 rfl (fun q => absurd q (by decide)) (fun hc1 => ?_)
    refine Road.iconst 4 (1 : Int32) bPow_d4 rfl ?_
    exact Road.iretI 5 bPow_d5 rfl (by decide) (by decide) (fun σ' m => ⟨rfl, rfl⟩)
  · skip
    refine Road.iloadN 0 bPow_d0 rfl ?_
    refine Road.if_ne 1 6 bPow_d1 rfl (fun hc1 => ?_) (fun q => absurd q (by decide))
    refine Road.iloadN 6 bPow_d6 rfl ?_
    refine Road.iconst 7 (1 : Int32) bPow_d7 rfl ?_
    refine Road.icmp_ne 8 14 bPow_d8 rfl (fun q => absurd q (by decide)) (fun hc8 => ?_)
    refine Road.bipush 11 (10 : Int32) bPow_d11 rfl ?_
    exact Road.iretI 13 bPow_d13 rfl (by decide) (by decide) (fun σ' m => ⟨rfl, rfl⟩)
  · skip
    refine Road.iloadN 0 bPow_d0 rfl ?_
    refine Road.if_ne 1 6 bPow_d1 rfl (fun hc1 => ?_) (fun q => absurd q (by decide))
    refine Road.iloadN 6 bPow_d6 rfl ?_
    refine Road.iconst 7 (1 : Int32) bPow_d7 rfl ?_
    refine Road.icmp_ne 8 14 bPow_d8 rfl (fun hc8 => ?_) (fun q => absurd q (by decide))
    refine Road.iloadN 14 bPow_d14 rfl ?_
    refine Road.iconst 15 (2 : Int32) bPow_d15 rfl ?_
    refine Road.icmp_ne 16 22 bPow_d16 rfl (fun q => absurd q (by decide)) (fun hc16 => ?_)
    refine Road.bipush 19 (100 : Int32) bPow_d19 rfl ?_
    exact Road.iretI 21 bPow_d21 rfl (by decide) (by decide) (fun σ' m => ⟨rfl, rfl⟩)
  · skip
    refine Road.iloadN 0 bPow_d0 rfl ?_
    refine Road.if_ne 1 6 bPow_d1 rfl (fun hc1 => ?_) (fun q => absurd q (by decide))
    refine Road.iloadN 6 bPow_d6 rfl ?_
    refine Road.iconst 7 (1 : Int32) bPow_d7 rfl ?_
    refine Road.icmp_ne 8 14 bPow_d8 rfl (fun hc8 => ?_) (fun q => absurd q (by decide))
    refine Road.iloadN 14 bPow_d14 rfl ?_
    refine Road.iconst 15 (2 : Int32) bPow_d15 rfl ?_
    refine Road.icmp_ne 16 22 bPow_d16 rfl (fun hc16 => ?_) (fun q => absurd q (by decide))
    refine Road.iloadN 22 bPow_d22 rfl ?_
    refine Road.iconst 23 (3 : Int32) bPow_d23 rfl ?_
    refine Road.icmp_ne 24 31 bPow_d24 rfl (fun q => absurd q (by decide)) (fun hc24 => ?_)
    refine Road.sipush 27 (1000 : Int32) bPow_d27 rfl ?_
    exact Road.iretI 30 bPow_d30 rfl (by decide) (by decide) (fun σ' m => ⟨rfl, rfl⟩)
  · skip
    refine Road.iloadN 0 bPow_d0 rfl ?_
    refine Road.if_ne 1 6 bPow_d1 rfl (fun hc1 => ?_) (fun q => absurd q (by decide))
    refine Road.iloadN 6 bPow_d6 rfl ?_
    refine Road.iconst 7 (1 : Int32) bPow_d7 rfl ?_
    refine Road.icmp_ne 8 14 bPow_d8 rfl (fun hc8 => ?_) (fun q => absurd q (by decide))
    refine Road.iloadN 14 bPow_d14 rfl ?_
    refine Road.iconst 15 (2 : Int32) bPow_d15 rfl ?_
    refine Road.icmp_ne 16 22 bPow_d16 rfl (fun hc16 => ?_) (fun q => absurd q (by decide))
    refine Road.iloadN 22 bPow_d22 rfl ?_
    refine Road.iconst 23 (3 : Int32) bPow_d23 rfl ?_
    refine Road.icmp_ne 24 31 bPow_d24 rfl (fun hc24 => ?_) (fun q => absurd q (by decide))
    refine Road.sipush 31 (10000 : Int32) bPow_d31 rfl ?_
    exact Road.iretI 34 bPow_d34 rfl (by decide) (by decide) (fun σ' m => ⟨rfl, rfl⟩)
def bExp : Road.Bdy := (⟨"com/example/orderly_tasks/orderlytasks/ConsoleSettingsToStringPinLaw", "exp", "(ILjava/lang/String;IILjava/lang/String;)C"⟩, method_5_code, 6, (some .char), { frames := 4, cells := 0, slots := 0, locals := 53 })
theorem bExp_d0 : decode bExp.bs 0 = .ok (.iload_n 0, 1) := by decide +kernel
theorem bExp_d1 : decode bExp.bs 1 = .ok (.bipush 21, 2) := by decide +kernel
theorem bExp_d3 : decode bExp.bs 3 = .ok (.if_icmp .ge 10, 3) := by decide +kernel
theorem bExp_d6 : decode bExp.bs 6 = .ok (.ldc 43, 2) := by decide +kernel
theorem bExp_d8 : decode bExp.bs 8 = .ok (.iload_n 0, 1) := by decide +kernel
theorem bExp_d9 : decode bExp.bs 9 = .ok (.invokevirtual 45, 3) := by decide +kernel
theorem bExp_d12 : decode bExp.bs 12 = .ok (.ireturn, 1) := by decide +kernel
theorem bExp_d13 : decode bExp.bs 13 = .ok (.iload_n 0, 1) := by decide +kernel
theorem bExp_d14 : decode bExp.bs 14 = .ok (.bipush 21, 2) := by decide +kernel
theorem bExp_d16 : decode bExp.bs 16 = .ok (.isub, 1) := by decide +kernel
theorem bExp_d17 : decode bExp.bs 17 = .ok (.istore 5, 2) := by decide +kernel
theorem bExp_d19 : decode bExp.bs 19 = .ok (.iload 5, 2) := by decide +kernel
theorem bExp_d21 : decode bExp.bs 21 = .ok (.aload_n 1, 1) := by decide +kernel
theorem bExp_d22 : decode bExp.bs 22 = .ok (.invokevirtual 35, 3) := by decide +kernel
theorem bExp_d25 : decode bExp.bs 25 = .ok (.if_icmp .ge 10, 3) := by decide +kernel
theorem bExp_d28 : decode bExp.bs 28 = .ok (.aload_n 1, 1) := by decide +kernel
theorem bExp_d29 : decode bExp.bs 29 = .ok (.iload 5, 2) := by decide +kernel
theorem bExp_d31 : decode bExp.bs 31 = .ok (.invokevirtual 45, 3) := by decide +kernel
theorem bExp_d34 : decode bExp.bs 34 = .ok (.ireturn, 1) := by decide +kernel
theorem bExp_d35 : decode bExp.bs 35 = .ok (.iload 5, 2) := by decide +kernel
theorem bExp_d37 : decode bExp.bs 37 = .ok (.aload_n 1, 1) := by decide +kernel
theorem bExp_d38 : decode bExp.bs 38 = .ok (.invokevirtual 35, 3) := by decide +kernel
theorem bExp_d41 : decode bExp.bs 41 = .ok (.isub, 1) := by decide +kernel
theorem bExp_d42 : decode bExp.bs 42 = .ok (.istore 5, 2) := by decide +kernel
theorem bExp_d44 : decode bExp.bs 44 = .ok (.iload 5, 2) := by decide +kernel
theorem bExp_d46 : decode bExp.bs 46 = .ok (.bipush 7, 2) := by decide +kernel
theorem bExp_d48 : decode bExp.bs 48 = .ok (.if_icmp .ge 11, 3) := by decide +kernel
theorem bExp_d51 : decode bExp.bs 51 = .ok (.ldc 49, 2) := by decide +kernel
theorem bExp_d53 : decode bExp.bs 53 = .ok (.iload 5, 2) := by decide +kernel
theorem bExp_d55 : decode bExp.bs 55 = .ok (.invokevirtual 45, 3) := by decide +kernel
theorem bExp_d58 : decode bExp.bs 58 = .ok (.ireturn, 1) := by decide +kernel
theorem bExp_d59 : decode bExp.bs 59 = .ok (.iload 5, 2) := by decide +kernel
theorem bExp_d61 : decode bExp.bs 61 = .ok (.bipush 7, 2) := by decide +kernel
theorem bExp_d63 : decode bExp.bs 63 = .ok (.isub, 1) := by decide +kernel
theorem bExp_d64 : decode bExp.bs 64 = .ok (.istore 5, 2) := by decide +kernel
theorem bExp_d66 : decode bExp.bs 66 = .ok (.iload 5, 2) := by decide +kernel
theorem bExp_d68 : decode bExp.bs 68 = .ok (.iload_n 3, 1) := by decide +kernel
theorem bExp_d69 : decode bExp.bs 69 = .ok (.if_icmp .ge 22, 3) := by decide +kernel
theorem bExp_d72 : decode bExp.bs 72 = .ok (.bipush 48, 2) := by decide +kernel
theorem bExp_d74 : decode bExp.bs 74 = .ok (.iload_n 2, 1) := by decide +kernel
theorem bExp_d75 : decode bExp.bs 75 = .ok (.iload_n 3, 1) := by decide +kernel
theorem bExp_d76 : decode bExp.bs 76 = .ok (.iconst 1, 1) := by decide +kernel
theorem bExp_d77 : decode bExp.bs 77 = .ok (.isub, 1) := by decide +kernel
theorem bExp_d78 : decode bExp.bs 78 = .ok (.iload 5, 2) := by decide +kernel
theorem bExp_d80 : decode bExp.bs 80 = .ok (.isub, 1) := by decide +kernel
theorem bExp_d81 : decode bExp.bs 81 = .ok (.invokestatic 51, 3) := by decide +kernel
theorem bExp_d84 : decode bExp.bs 84 = .ok (.idiv, 1) := by decide +kernel
theorem bExp_d85 : decode bExp.bs 85 = .ok (.bipush 10, 2) := by decide +kernel
theorem bExp_d87 : decode bExp.bs 87 = .ok (.irem, 1) := by decide +kernel
theorem bExp_d88 : decode bExp.bs 88 = .ok (.iadd, 1) := by decide +kernel
theorem bExp_d89 : decode bExp.bs 89 = .ok (.i2c, 1) := by decide +kernel
theorem bExp_d90 : decode bExp.bs 90 = .ok (.ireturn, 1) := by decide +kernel
theorem bExp_d91 : decode bExp.bs 91 = .ok (.iload 5, 2) := by decide +kernel
theorem bExp_d93 : decode bExp.bs 93 = .ok (.iload_n 3, 1) := by decide +kernel
theorem bExp_d94 : decode bExp.bs 94 = .ok (.isub, 1) := by decide +kernel
theorem bExp_d95 : decode bExp.bs 95 = .ok (.istore 5, 2) := by decide +kernel
theorem bExp_d97 : decode bExp.bs 97 = .ok (.iload 5, 2) := by decide +kernel
theorem bExp_d99 : decode bExp.bs 99 = .ok (.bipush 7, 2) := by decide +kernel
theorem bExp_d101 : decode bExp.bs 101 = .ok (.if_icmp .ge 11, 3) := by decide +kernel
theorem bExp_d104 : decode bExp.bs 104 = .ok (.ldc 54, 2) := by decide +kernel
theorem bExp_d106 : decode bExp.bs 106 = .ok (.iload 5, 2) := by decide +kernel
theorem bExp_d108 : decode bExp.bs 108 = .ok (.invokevirtual 45, 3) := by decide +kernel
theorem bExp_d111 : decode bExp.bs 111 = .ok (.ireturn, 1) := by decide +kernel
theorem bExp_d112 : decode bExp.bs 112 = .ok (.iload 5, 2) := by decide +kernel
theorem bExp_d114 : decode bExp.bs 114 = .ok (.bipush 7, 2) := by decide +kernel
theorem bExp_d116 : decode bExp.bs 116 = .ok (.isub, 1) := by decide +kernel
theorem bExp_d117 : decode bExp.bs 117 = .ok (.istore 5, 2) := by decide +kernel
theorem bExp_d119 : decode bExp.bs 119 = .ok (.iload 5, 2) := by decide +kernel
theorem bExp_d121 : decode bExp.bs 121 = .ok (.aload 4, 2) := by decide +kernel
theorem bExp_d123 : decode bExp.bs 123 = .ok (.invokevirtual 35, 3) := by decide +kernel
theorem bExp_d126 : decode bExp.bs 126 = .ok (.if_icmp .ge 11, 3) := by decide +kernel
theorem bExp_d129 : decode bExp.bs 129 = .ok (.aload 4, 2) := by decide +kernel
theorem bExp_d131 : decode bExp.bs 131 = .ok (.iload 5, 2) := by decide +kernel
theorem bExp_d133 : decode bExp.bs 133 = .ok (.invokevirtual 45, 3) := by decide +kernel
theorem bExp_d136 : decode bExp.bs 136 = .ok (.ireturn, 1) := by decide +kernel
theorem bExp_d137 : decode bExp.bs 137 = .ok (.bipush 93, 2) := by decide +kernel
theorem bExp_d139 : decode bExp.bs 139 = .ok (.ireturn, 1) := by decide +kernel
theorem bExp_pd : parseMethodDescriptor "(ILjava/lang/String;IILjava/lang/String;)C" = some ⟨[.int, (.object "java/lang/String"), .int, .int, (.object "java/lang/String")], (some .char)⟩ := by decide +kernel
theorem bExp_pn : plainFor bExp.y = true := plainFor_of_name (show plainName "com/example/orderly_tasks/orderlytasks/ConsoleSettingsToStringPinLaw" = true from by first | (simp [plainName, overriddenIn]; done) | decide +kernel)
theorem cExp (l : Launch) (Z : State) (a0 : Array Value) (hw : ∀ d ∈ tables_1, d.before a0 Z = true) (n0 : Nat) (hEW : EW Z a0 consts_1) (i : Nat) (c : Int32) (s sb u ub : Addr) (bs us : List Int32) (m : Nat) (l1 m1 l2 m2 l3 m3 : Addr) (h0 : Heap) (σ : Addr → Prop) (T : Road.Str Z h0 s sb bs) (U : Road.Str Z h0 u ub us) (hbs : bs.length ≤ 2) (hus : us.length ≤ 2) (hm : m < 65536) (hat : ([67, 111, 110, 115, 111, 108, 101, 83, 101, 116, 116, 105, 110, 103, 115, 91, 98, 105, 110, 100, 61] ++ bs ++ [44, 32, 112, 111, 114, 116, 61] ++ Road.decN m ++ [44, 32, 117, 115, 101, 114, 61] ++ us ++ [93])[i]? = some c) (cp : Int32) (Hc : Sta Z Z.heap Road.SN "COMPACT_STRINGS" "Z" (.int cp)) (hcp : ¬ cp = 0) (fm : Value) (hfm : fm.isRef = true) (Hf : Sta Z Z.heap "jdk/internal/util/Preconditions" "SIOOBE_FORMATTER" "Ljava/util/function/BiFunction;" fm) (K1 : i < 21 → (σ (Road.lm n0 8 l1) ∧ Road.Str Z h0 l1 m1 [67, 111, 110, 115, 111, 108, 101, 83, 101, 116, 116, 105, 110, 103, 115, 91, 98, 105, 110, 100, 61])) (K2 : 21 + bs.length ≤ i → i < 28 + bs.length → (σ (Road.lm n0 9 l2) ∧ Road.Str Z h0 l2 m2 [44, 32, 112, 111, 114, 116, 61])) (K3 : 28 + bs.length + (Road.decN m).length ≤ i → i < 35 + bs.length + (Road.decN m).length → (σ (Road.lm n0 10 l3) ∧ Road.Str Z h0 l3 m3 [44, 32, 117, 115, 101, 114, 61])) :
    Road.Con l Z consts_1 n0 false bExp [] σ #[(.int (Nat.toInt32 i)), (.ref s), (.int (Nat.toInt32 m)), (.int (Nat.toInt32 (Road.decN m).length)), (.ref u)] h0 (fun v h2 s2 => v = some (.int c) ∧ h0 = h2) := by
  refine Road.Con.of bExp_pn hEW #[.val (.int (Nat.toInt32 i)), .val (.ref s), .val (.int (Nat.toInt32 m)), .val (.int (Nat.toInt32 (Road.decN m).length)), .val (.ref u), .unset] (fun m => Road.ent (Road.laid1 rfl (Road.laid1 rfl (Road.laid1 rfl (Road.laid1 rfl (Road.laid1 rfl Road.laid0))))) (k := 1) rfl rfl) ?_
  intro D hD
  have hd5 := Road.decN_le 4 m (by omega)
  obtain ⟨hiX, hcX⟩ := List.getElem?_eq_some_iff.mp hat
  have hlX := hiX
  simp only [List.length_append, List.length_cons, List.length_nil] at hlX
  have hi45 : i < 100 := by omega
  refine Road.iloadN 0 bExp_d0 rfl ?_
  refine Road.bipush 1 (21 : Int32) bExp_d1 rfl ?_
  refine Road.icmp_ge 3 13 bExp_d3 rfl (fun h3 => ?_) (fun h3 => ?_)
  · skip
    rw [show (21 : Int32) = Nat.toInt32 21 from rfl, Road.lt32 (by omega) (by omega)] at h3
    refine Road.iloadN 13 bExp_d13 rfl ?_
    refine Road.bipush 14 (21 : Int32) bExp_d14 rfl ?_
    refine Road.isub 16 bExp_d16 ?_
    refine Road.nameI ?_
    intro z_1 hz_1
    obtain rfl : z_1 = (Nat.toInt32 (i - 21)) := by rw [hz_1]; exact Road.sub32n (j := 21) (by omega)
    refine Road.istore 17 #[.val (.int (Nat.toInt32 i)), .val (.ref s), .val (.int (Nat.toInt32 m)), .val (.int (Nat.toInt32 (Road.decN m).length)), .val (.ref u), .val (.int (Nat.toInt32 (i - 21)))] bExp_d17 rfl ?_
    refine Road.iload 19 bExp_d19 rfl ?_
    refine Road.aloadN 21 bExp_d21 rfl ?_
    refine Road.callV (B' := bLen) (a := s) 22 (argsL := []) (rest := [(.int (Nat.toInt32 (i - 21)))]) "java/lang/String" 1 bExp_d22 (wI hw 278 rfl) (wI hw 90 rfl) (fun vm hz => Road.notFace_sib (args := #[]) (mv (s := D.s.setVm vm) hz (wI hw 57 rfl)) rfl) (wI hw 92 rfl) (wI hw 91 rfl) (wI hw 5 rfl) (wI hw 93 rfl) (by decide) T.1 (cLen l Z a0 hw n0 hEW s sb bs h0 σ T cp Hc hcp) (lenOf bLen_pd rfl) rfl rfl rfl (by decide) (by decide) (ce' := 0) (sl' := 0) rfl rfl (by decide) (by decide) ?_
    rintro _ h_2 σ_3 m_4 ⟨rfl, rfl⟩
    refine Road.Go.weaken (σ' := σ) m_4 (Nat.le_refl _) (Nat.le_refl _) ?_
    refine Road.icmp_ge 25 35 bExp_d25 rfl (fun h25 => ?_) (fun h25 => ?_)
    · skip
      rw [Road.lt32 (by omega) (by omega)] at h25
      refine Road.iload 35 bExp_d35 rfl ?_
      refine Road.aloadN 37 bExp_d37 rfl ?_
      refine Road.callV (B' := bLen) (a := s) 38 (argsL := []) (rest := [(.int (Nat.toInt32 (i - 21)))]) "java/lang/String" 1 bExp_d38 (wI hw 278 rfl) (wI hw 90 rfl) (fun vm hz => Road.notFace_sib (args := #[]) (mv (s := D.s.setVm vm) hz (wI hw 57 rfl)) rfl) (wI hw 92 rfl) (wI hw 91 rfl) (wI hw 5 rfl) (wI hw 93 rfl) (by decide) T.1 (cLen l Z a0 hw n0 hEW s sb bs h0 σ T cp Hc hcp) (lenOf bLen_pd rfl) rfl rfl rfl (by decide) (by decide) (ce' := 0) (sl' := 0) rfl rfl (by decide) (by decide) ?_
      rintro _ h_6 σ_7 m_8 ⟨rfl, rfl⟩
      refine Road.Go.weaken (σ' := σ) m_8 (Nat.le_refl _) (Nat.le_refl _) ?_
      refine Road.isub 41 bExp_d41 ?_
      refine Road.nameI ?_
      intro z_10 hz_10
      obtain rfl : z_10 = (Nat.toInt32 (i - 21 - bs.length)) := by rw [hz_10]; exact Road.sub32n (by omega)
      refine Road.istore 42 #[.val (.int (Nat.toInt32 i)), .val (.ref s), .val (.int (Nat.toInt32 m)), .val (.int (Nat.toInt32 (Road.decN m).length)), .val (.ref u), .val (.int (Nat.toInt32 (i - 21 - bs.length)))] bExp_d42 rfl ?_
      refine Road.iload 44 bExp_d44 rfl ?_
      refine Road.bipush 46 (7 : Int32) bExp_d46 rfl ?_
      refine Road.icmp_ge 48 59 bExp_d48 rfl (fun h48 => ?_) (fun h48 => ?_)
      · skip
        rw [show (7 : Int32) = Nat.toInt32 7 from rfl, Road.lt32 (by omega) (by omega)] at h48
        refine Road.iload 59 bExp_d59 rfl ?_
        refine Road.bipush 61 (7 : Int32) bExp_d61 rfl ?_
        refine Road.isub 63 bExp_d63 ?_
        refine Road.nameI ?_
        intro z_11 hz_11
        obtain rfl : z_11 = (Nat.toInt32 (i - 21 - bs.length - 7)) := by rw [hz_11]; exact Road.sub32n (j := 7) (by omega)
        refine Road.istore 64 #[.val (.int (Nat.toInt32 i)), .val (.ref s), .val (.int (Nat.toInt32 m)), .val (.int (Nat.toInt32 (Road.decN m).length)), .val (.ref u), .val (.int (Nat.toInt32 (i - 21 - bs.length - 7)))] bExp_d64 rfl ?_
        refine Road.iload 66 bExp_d66 rfl ?_
        refine Road.iloadN 68 bExp_d68 rfl ?_
        refine Road.icmp_ge 69 91 bExp_d69 rfl (fun h69 => ?_) (fun h69 => ?_)
        · skip
          rw [Road.lt32 (by omega) (by omega)] at h69
          refine Road.iload 91 bExp_d91 rfl ?_
          refine Road.iloadN 93 bExp_d93 rfl ?_
          refine Road.isub 94 bExp_d94 ?_
          refine Road.nameI ?_
          intro z_12 hz_12
          obtain rfl : z_12 = (Nat.toInt32 (i - 21 - bs.length - 7 - (Road.decN m).length)) := by rw [hz_12]; exact Road.sub32n (by omega)
          refine Road.istore 95 #[.val (.int (Nat.toInt32 i)), .val (.ref s), .val (.int (Nat.toInt32 m)), .val (.int (Nat.toInt32 (Road.decN m).length)), .val (.ref u), .val (.int (Nat.toInt32 (i - 21 - bs.length - 7 - (Road.decN m).length)))] bExp_d95 rfl ?_
          refine Road.iload 97 bExp_d97 rfl ?_
          refine Road.bipush 99 (7 : Int32) bExp_d99 rfl ?_
          refine Road.icmp_ge 101 112 bExp_d101 rfl (fun h101 => ?_) (fun h101 => ?_)
          · skip
            rw [show (7 : Int32) = Nat.toInt32 7 from rfl, Road.lt32 (by omega) (by omega)] at h101
            refine Road.iload 112 bExp_d112 rfl ?_
            refine Road.bipush 114 (7 : Int32) bExp_d114 rfl ?_
            refine Road.isub 116 bExp_d116 ?_
            refine Road.nameI ?_
            intro z_13 hz_13
            obtain rfl : z_13 = (Nat.toInt32 (i - 21 - bs.length - 7 - (Road.decN m).length - 7)) := by rw [hz_13]; exact Road.sub32n (j := 7) (by omega)
            refine Road.istore 117 #[.val (.int (Nat.toInt32 i)), .val (.ref s), .val (.int (Nat.toInt32 m)), .val (.int (Nat.toInt32 (Road.decN m).length)), .val (.ref u), .val (.int (Nat.toInt32 (i - 21 - bs.length - 7 - (Road.decN m).length - 7)))] bExp_d117 rfl ?_
            refine Road.iload 119 bExp_d119 rfl ?_
            refine Road.aload 121 bExp_d121 rfl ?_
            refine Road.callV (B' := bLen) (a := u) 123 (argsL := []) (rest := [(.int (Nat.toInt32 (i - 21 - bs.length - 7 - (Road.decN m).length - 7)))]) "java/lang/String" 1 bExp_d123 (wI hw 278 rfl) (wI hw 90 rfl) (fun vm hz => Road.notFace_sib (args := #[]) (mv (s := D.s.setVm vm) hz (wI hw 57 rfl)) rfl) (wI hw 92 rfl) (wI hw 91 rfl) (wI hw 5 rfl) (wI hw 93 rfl) (by decide) U.1 (cLen l Z a0 hw n0 hEW u ub us h0 σ U cp Hc hcp) (lenOf bLen_pd rfl) rfl rfl rfl (by decide) (by decide) (ce' := 0) (sl' := 0) rfl rfl (by decide) (by decide) ?_
            rintro _ h_14 σ_15 m_16 ⟨rfl, rfl⟩
            refine Road.Go.weaken (σ' := σ) m_16 (Nat.le_refl _) (Nat.le_refl _) ?_
            refine Road.icmp_ge 126 137 bExp_d126 rfl (fun h126 => ?_) (fun h126 => ?_)
            · skip
              rw [Road.lt32 (by omega) (by omega)] at h126
              refine Road.bipush 137 (93 : Int32) bExp_d137 rfl ?_
              have h93 : ([93] : List Int32)[0]? = some c := by rw [List.getElem?_append_right (by simp only [List.length_append, List.length_cons, List.length_nil]; omega), show i - (([67, 111, 110, 115, 111, 108, 101, 83, 101, 116, 116, 105, 110, 103, 115, 91, 98, 105, 110, 100, 61] : List Int32) ++ bs ++ ([44, 32, 112, 111, 114, 116, 61] : List Int32) ++ Road.decN m ++ ([44, 32, 117, 115, 101, 114, 61] : List Int32) ++ us).length = 0 from by simp only [List.length_append, List.length_cons, List.length_nil] <;> omega] at hat; exact hat
              have hc : c = 93 := (Option.some.inj h93).symm
              subst hc
              exact Road.iret 139 93 bExp_d139 (t := .char) rfl (by simp) rfl (by decide) (by decide) (fun σ' m => ⟨rfl, rfl⟩)
            · skip
              rw [Road.lt32 (by omega) (by omega)] at h126
              refine Road.aload 129 bExp_d129 rfl ?_
              refine Road.iload 131 bExp_d131 rfl ?_
              have ht : us[i - 21 - bs.length - 7 - (Road.decN m).length - 7]? = some c := by rw [List.getElem?_append_left (by simp only [List.length_append, List.length_cons, List.length_nil]; omega), List.getElem?_append_right (by simp only [List.length_append, List.length_cons, List.length_nil]; omega), show i - (([67, 111, 110, 115, 111, 108, 101, 83, 101, 116, 116, 105, 110, 103, 115, 91, 98, 105, 110, 100, 61] : List Int32) ++ bs ++ ([44, 32, 112, 111, 114, 116, 61] : List Int32) ++ Road.decN m ++ ([44, 32, 117, 115, 101, 114, 61] : List Int32)).length = i - 21 - bs.length - 7 - (Road.decN m).length - 7 from by simp only [List.length_append, List.length_cons, List.length_nil] <;> omega] at hat; exact hat
              obtain ⟨hi2, hv2⟩ := List.getElem?_eq_some_iff.mp ht
              refine Road.callV (B' := bChA) (a := u) 133 (argsL := [(.int (Nat.toInt32 (i - 21 - bs.length - 7 - (Road.decN m).length - 7)))]) (rest := []) "java/lang/String" 0 bExp_d133 (wI hw 285 rfl) (wI hw 286 rfl) (fun vm hz => Road.notFace_sib (args := #[]) (mv (s := D.s.setVm vm) hz (wI hw 57 rfl)) rfl) (wI hw 288 rfl) (wI hw 287 rfl) (wI hw 5 rfl) (wI hw 289 rfl) (by decide) U.1 (cChA l Z a0 hw n0 hEW u ub us (Nat.toInt32 (i - 21 - bs.length - 7 - (Road.decN m).length - 7)) (i - 21 - bs.length - 7 - (Road.decN m).length - 7) h0 σ U (Road.n32 (by omega)) hi2 cp Hc hcp fm hfm Hf) (lenOf bChA_pd rfl) rfl rfl rfl (by decide) (by decide) (ce' := 0) (sl' := 0) rfl rfl (by decide) (by decide) ?_
              rintro _ h_18 σ_19 m_20 ⟨rfl, rfl⟩
              refine Road.Go.weaken (σ' := σ) m_20 (Nat.le_refl _) (Nat.le_refl _) ?_
              refine Road.nameI ?_
              intro z hz
              rw [hv2] at hz
              subst hz
              exact Road.iret 136 z bExp_d136 (t := .char) rfl (by simp) (Road.nar_lat (hv2 ▸ U.2.2.2.2 _ (List.getElem_mem hi2))) (by decide) (by decide) (fun σ' m => ⟨rfl, rfl⟩)
          · skip
            rw [show (7 : Int32) = Nat.toInt32 7 from rfl, Road.lt32 (by omega) (by omega)] at h101
            obtain ⟨kq, SL⟩ := K3 (by omega) (by omega)
            refine Road.ldcK 104 10 bExp_d104 (wI hw 308 rfl) (by decide) rfl kq ?_
            refine Road.iload 106 bExp_d106 rfl ?_
            have ht : ([44, 32, 117, 115, 101, 114, 61] : List Int32)[i - 21 - bs.length - 7 - (Road.decN m).length]? = some c := by rw [List.getElem?_append_left (by simp only [List.length_append, List.length_cons, List.length_nil]; omega), List.getElem?_append_left (by simp only [List.length_append, List.length_cons, List.length_nil]; omega), List.getElem?_append_right (by simp only [List.length_append, List.length_cons, List.length_nil]; omega), show i - (([67, 111, 110, 115, 111, 108, 101, 83, 101, 116, 116, 105, 110, 103, 115, 91, 98, 105, 110, 100, 61] : List Int32) ++ bs ++ ([44, 32, 112, 111, 114, 116, 61] : List Int32) ++ Road.decN m).length = i - 21 - bs.length - 7 - (Road.decN m).length from by simp only [List.length_append, List.length_cons, List.length_nil] <;> omega] at hat; exact hat
            obtain ⟨hi2, hv2⟩ := List.getElem?_eq_some_iff.mp ht
            refine Road.callV (B' := bChA) (a := l3) 108 (argsL := [(.int (Nat.toInt32 (i - 21 - bs.length - 7 - (Road.decN m).length)))]) (rest := []) "java/lang/String" 0 bExp_d108 (wI hw 285 rfl) (wI hw 286 rfl) (fun vm hz => Road.notFace_sib (args := #[]) (mv (s := D.s.setVm vm) hz (wI hw 57 rfl)) rfl) (wI hw 288 rfl) (wI hw 287 rfl) (wI hw 5 rfl) (wI hw 289 rfl) (by decide) SL.1 (cChA l Z a0 hw n0 hEW l3 m3 ([44, 32, 117, 115, 101, 114, 61] : List Int32) (Nat.toInt32 (i - 21 - bs.length - 7 - (Road.decN m).length)) (i - 21 - bs.length - 7 - (Road.decN m).length) h0 σ SL (Road.n32 (by omega)) hi2 cp Hc hcp fm hfm Hf) (lenOf bChA_pd rfl) rfl rfl rfl (by decide) (by decide) (ce' := 0) (sl' := 0) rfl rfl (by decide) (by decide) ?_
            rintro _ h_22 σ_23 m_24 ⟨rfl, rfl⟩
            refine Road.Go.weaken (σ' := σ) m_24 (Nat.le_refl _) (Nat.le_refl _) ?_
            refine Road.nameI ?_
            intro z hz
            rw [hv2] at hz
            subst hz
            exact Road.iret 111 z bExp_d111 (t := .char) rfl (by simp) (Road.nar_lat (hv2 ▸ SL.2.2.2.2 _ (List.getElem_mem hi2))) (by decide) (by decide) (fun σ' m => ⟨rfl, rfl⟩)
        · skip
          rw [Road.lt32 (by omega) (by omega)] at h69
          refine Road.bipush 72 (48 : Int32) bExp_d72 rfl ?_
          refine Road.iloadN 74 bExp_d74 rfl ?_
          refine Road.iloadN 75 bExp_d75 rfl ?_
          refine Road.iconst 76 (1 : Int32) bExp_d76 rfl ?_
          refine Road.isub 77 bExp_d77 ?_
          refine Road.nameI ?_
          intro z_26 hz_26
          obtain rfl : z_26 = (Nat.toInt32 ((Road.decN m).length - 1)) := by rw [hz_26]; exact Road.sub32n (j := 1) (by omega)
          refine Road.iload 78 bExp_d78 rfl ?_
          refine Road.isub 80 bExp_d80 ?_
          refine Road.nameI ?_
          intro z_27 hz_27
          obtain rfl : z_27 = (Nat.toInt32 ((Road.decN m).length - 1 - (i - 21 - bs.length - 7))) := by rw [hz_27]; exact Road.sub32n (by omega)
          refine Road.callS (B' := bPow) 81 (argsL := [(.int (Nat.toInt32 ((Road.decN m).length - 1 - (i - 21 - bs.length - 7))))]) (rest := [(.int (Nat.toInt32 m)), (.int (48 : Int32))]) 2 bExp_d81 (wI hw 305 rfl) (wI hw 306 rfl) (wI hw 276 rfl) (wI hw 307 rfl) (by decide) (cPow l Z a0 hw n0 hEW ((Road.decN m).length - 1 - (i - 21 - bs.length - 7)) h0 σ (by omega)) (lenOf bPow_pd rfl) rfl rfl rfl (by decide) (by decide) (ce' := 0) (sl' := 0) rfl rfl (by decide) (by decide) ?_
          rintro _ h_28 σ_29 m_30 ⟨rfl, rfl⟩
          refine Road.Go.weaken (σ' := σ) m_30 (Nat.le_refl _) (Nat.le_refl _) ?_
          have hpw : 0 < 10 ^ ((Road.decN m).length - 1 - (i - 21 - bs.length - 7)) ∧ 10 ^ ((Road.decN m).length - 1 - (i - 21 - bs.length - 7)) ≤ 10000 := ⟨Nat.pow_pos (by omega), Nat.pow_le_pow_right (n := 10) (by omega) (show ((Road.decN m).length - 1 - (i - 21 - bs.length - 7)) ≤ 4 by omega)⟩
          have hdc : (Road.decN m)[i - 21 - bs.length - 7]? = some c := by rw [List.getElem?_append_left (by simp only [List.length_append, List.length_cons, List.length_nil]; omega), List.getElem?_append_left (by simp only [List.length_append, List.length_cons, List.length_nil]; omega), List.getElem?_append_left (by simp only [List.length_append, List.length_cons, List.length_nil]; omega), List.getElem?_append_right (by simp only [List.length_append, List.length_cons, List.length_nil]; omega), show i - (([67, 111, 110, 115, 111, 108, 101, 83, 101, 116, 116, 105, 110, 103, 115, 91, 98, 105, 110, 100, 61] : List Int32) ++ bs ++ ([44, 32, 112, 111, 114, 116, 61] : List Int32)).length = i - 21 - bs.length - 7 from by simp only [List.length_append, List.length_cons, List.length_nil] <;> omega] at hat; exact hat
          obtain ⟨hi2, hv2⟩ := List.getElem?_eq_some_iff.mp hdc
          refine Road.idiv 84 bExp_d84 (by intro z; have := (Road.eq32 (i := 10 ^ ((Road.decN m).length - 1 - (i - 21 - bs.length - 7))) (j := 0) (by omega) (by omega)).mp z; omega) ?_
          refine Road.nameI ?_
          intro z_32 hz_32
          obtain rfl : z_32 = (Nat.toInt32 (m / 10 ^ ((Road.decN m).length - 1 - (i - 21 - bs.length - 7)))) := by rw [hz_32]; exact Road.idiv_nat (by omega) (by omega)
          refine Road.bipush 85 (10 : Int32) bExp_d85 rfl ?_
          refine Road.irem 87 bExp_d87 (by decide) ?_
          refine Road.nameI ?_
          intro z_33 hz_33
          obtain rfl : z_33 = (Nat.toInt32 (m / 10 ^ ((Road.decN m).length - 1 - (i - 21 - bs.length - 7)) % 10)) := by rw [hz_33]; exact Road.irem_nat (k := 10) (by have := Nat.div_le_self m (10 ^ ((Road.decN m).length - 1 - (i - 21 - bs.length - 7))); omega) (by omega)
          refine Road.iadd 88 bExp_d88 ?_
          refine Road.i2c 89 bExp_d89 ?_
          exact Road.iret 90 c bExp_d90 (t := .char) rfl (by simp) (by rw [← hv2, Road.decN_get]; exact Road.digit_char (Nat.mod_lt _ (by omega))) (by decide) (by decide) (fun σ' m => ⟨rfl, rfl⟩)
      · skip
        rw [show (7 : Int32) = Nat.toInt32 7 from rfl, Road.lt32 (by omega) (by omega)] at h48
        obtain ⟨kq, SL⟩ := K2 (by omega) (by omega)
        refine Road.ldcK 51 9 bExp_d51 (wI hw 304 rfl) (by decide) rfl kq ?_
        refine Road.iload 53 bExp_d53 rfl ?_
        have ht : ([44, 32, 112, 111, 114, 116, 61] : List Int32)[i - 21 - bs.length]? = some c := by rw [List.getElem?_append_left (by simp only [List.length_append, List.length_cons, List.length_nil]; omega), List.getElem?_append_left (by simp only [List.length_append, List.length_cons, List.length_nil]; omega), List.getElem?_append_left (by simp only [List.length_append, List.length_cons, List.length_nil]; omega), List.getElem?_append_left (by simp only [List.length_append, List.length_cons, List.length_nil]; omega), List.getElem?_append_right (by simp only [List.length_append, List.length_cons, List.length_nil]; omega), show i - (([67, 111, 110, 115, 111, 108, 101, 83, 101, 116, 116, 105, 110, 103, 115, 91, 98, 105, 110, 100, 61] : List Int32) ++ bs).length = i - 21 - bs.length from by simp only [List.length_append, List.length_cons, List.length_nil] <;> omega] at hat; exact hat
        obtain ⟨hi2, hv2⟩ := List.getElem?_eq_some_iff.mp ht
        refine Road.callV (B' := bChA) (a := l2) 55 (argsL := [(.int (Nat.toInt32 (i - 21 - bs.length)))]) (rest := []) "java/lang/String" 0 bExp_d55 (wI hw 285 rfl) (wI hw 286 rfl) (fun vm hz => Road.notFace_sib (args := #[]) (mv (s := D.s.setVm vm) hz (wI hw 57 rfl)) rfl) (wI hw 288 rfl) (wI hw 287 rfl) (wI hw 5 rfl) (wI hw 289 rfl) (by decide) SL.1 (cChA l Z a0 hw n0 hEW l2 m2 ([44, 32, 112, 111, 114, 116, 61] : List Int32) (Nat.toInt32 (i - 21 - bs.length)) (i - 21 - bs.length) h0 σ SL (Road.n32 (by omega)) hi2 cp Hc hcp fm hfm Hf) (lenOf bChA_pd rfl) rfl rfl rfl (by decide) (by decide) (ce' := 0) (sl' := 0) rfl rfl (by decide) (by decide) ?_
        rintro _ h_34 σ_35 m_36 ⟨rfl, rfl⟩
        refine Road.Go.weaken (σ' := σ) m_36 (Nat.le_refl _) (Nat.le_refl _) ?_
        refine Road.nameI ?_
        intro z hz
        rw [hv2] at hz
        subst hz
        exact Road.iret 58 z bExp_d58 (t := .char) rfl (by simp) (Road.nar_lat (hv2 ▸ SL.2.2.2.2 _ (List.getElem_mem hi2))) (by decide) (by decide) (fun σ' m => ⟨rfl, rfl⟩)
    · skip
      rw [Road.lt32 (by omega) (by omega)] at h25
      refine Road.aloadN 28 bExp_d28 rfl ?_
      refine Road.iload 29 bExp_d29 rfl ?_
      have ht : bs[i - 21]? = some c := by rw [List.getElem?_append_left (by simp only [List.length_append, List.length_cons, List.length_nil]; omega), List.getElem?_append_left (by simp only [List.length_append, List.length_cons, List.length_nil]; omega), List.getElem?_append_left (by simp only [List.length_append, List.length_cons, List.length_nil]; omega), List.getElem?_append_left (by simp only [List.length_append, List.length_cons, List.length_nil]; omega), List.getElem?_append_left (by simp only [List.length_append, List.length_cons, List.length_nil]; omega), List.getElem?_append_right (by simp only [List.length_append, List.length_cons, List.length_nil]; omega), show i - (([67, 111, 110, 115, 111, 108, 101, 83, 101, 116, 116, 105, 110, 103, 115, 91, 98, 105, 110, 100, 61] : List Int32)).length = i - 21 from by simp only [List.length_append, List.length_cons, List.length_nil] <;> omega] at hat; exact hat
      obtain ⟨hi2, hv2⟩ := List.getElem?_eq_some_iff.mp ht
      refine Road.callV (B' := bChA) (a := s) 31 (argsL := [(.int (Nat.toInt32 (i - 21)))]) (rest := []) "java/lang/String" 0 bExp_d31 (wI hw 285 rfl) (wI hw 286 rfl) (fun vm hz => Road.notFace_sib (args := #[]) (mv (s := D.s.setVm vm) hz (wI hw 57 rfl)) rfl) (wI hw 288 rfl) (wI hw 287 rfl) (wI hw 5 rfl) (wI hw 289 rfl) (by decide) T.1 (cChA l Z a0 hw n0 hEW s sb bs (Nat.toInt32 (i - 21)) (i - 21) h0 σ T (Road.n32 (by omega)) hi2 cp Hc hcp fm hfm Hf) (lenOf bChA_pd rfl) rfl rfl rfl (by decide) (by decide) (ce' := 0) (sl' := 0) rfl rfl (by decide) (by decide) ?_
      rintro _ h_38 σ_39 m_40 ⟨rfl, rfl⟩
      refine Road.Go.weaken (σ' := σ) m_40 (Nat.le_refl _) (Nat.le_refl _) ?_
      refine Road.nameI ?_
      intro z hz
      rw [hv2] at hz
      subst hz
      exact Road.iret 34 z bExp_d34 (t := .char) rfl (by simp) (Road.nar_lat (hv2 ▸ T.2.2.2.2 _ (List.getElem_mem hi2))) (by decide) (by decide) (fun σ' m => ⟨rfl, rfl⟩)
  · skip
    rw [show (21 : Int32) = Nat.toInt32 21 from rfl, Road.lt32 (by omega) (by omega)] at h3
    have hreg1 : i < 21 := h3
    obtain ⟨kq, SL⟩ := K1 hreg1
    refine Road.ldcK 6 8 bExp_d6 (wI hw 303 rfl) (by decide) rfl kq ?_
    refine Road.iloadN 8 bExp_d8 rfl ?_
    have ht : ([67, 111, 110, 115, 111, 108, 101, 83, 101, 116, 116, 105, 110, 103, 115, 91, 98, 105, 110, 100, 61] : List Int32)[i]? = some c := by rw [List.getElem?_append_left (by simp only [List.length_append, List.length_cons, List.length_nil]; omega), List.getElem?_append_left (by simp only [List.length_append, List.length_cons, List.length_nil]; omega), List.getElem?_append_left (by simp only [List.length_append, List.length_cons, List.length_nil]; omega), List.getElem?_append_left (by simp only [List.length_append, List.length_cons, List.length_nil]; omega), List.getElem?_append_left (by simp only [List.length_append, List.length_cons, List.length_nil]; omega), List.getElem?_append_left (by simp only [List.length_append, List.length_cons, List.length_nil]; omega)] at hat; exact hat
    obtain ⟨hi2, hv2⟩ := List.getElem?_eq_some_iff.mp ht
    refine Road.callV (B' := bChA) (a := l1) 9 (argsL := [(.int (Nat.toInt32 i))]) (rest := []) "java/lang/String" 0 bExp_d9 (wI hw 285 rfl) (wI hw 286 rfl) (fun vm hz => Road.notFace_sib (args := #[]) (mv (s := D.s.setVm vm) hz (wI hw 57 rfl)) rfl) (wI hw 288 rfl) (wI hw 287 rfl) (wI hw 5 rfl) (wI hw 289 rfl) (by decide) SL.1 (cChA l Z a0 hw n0 hEW l1 m1 ([67, 111, 110, 115, 111, 108, 101, 83, 101, 116, 116, 105, 110, 103, 115, 91, 98, 105, 110, 100, 61] : List Int32) (Nat.toInt32 (i)) (i) h0 σ SL (Road.n32 (by omega)) hi2 cp Hc hcp fm hfm Hf) (lenOf bChA_pd rfl) rfl rfl rfl (by decide) (by decide) (ce' := 0) (sl' := 0) rfl rfl (by decide) (by decide) ?_
    rintro _ h_42 σ_43 m_44 ⟨rfl, rfl⟩
    refine Road.Go.weaken (σ' := σ) m_44 (Nat.le_refl _) (Nat.le_refl _) ?_
    refine Road.nameI ?_
    intro z hz
    rw [hv2] at hz
    subst hz
    exact Road.iret 12 z bExp_d12 (t := .char) rfl (by simp) (Road.nar_lat (hv2 ▸ SL.2.2.2.2 _ (List.getElem_mem hi2))) (by decide) (by decide) (fun σ' m => ⟨rfl, rfl⟩)
def bExN1 : Road.Bdy := (⟨"com/example/orderly_tasks/orderlytasks/ConsoleSettingsToStringPinLaw", "exp", "(ILjava/lang/String;IILjava/lang/String;)C"⟩, method_5_code, 6, (some .char), { frames := 4, cells := 2, slots := 88, locals := 53 })
theorem bExN1_pd : parseMethodDescriptor "(ILjava/lang/String;IILjava/lang/String;)C" = some ⟨[.int, (.object "java/lang/String"), .int, .int, (.object "java/lang/String")], (some .char)⟩ := by decide +kernel
theorem bExN1_pn : plainFor bExN1.y = true := plainFor_of_name (show plainName "com/example/orderly_tasks/orderlytasks/ConsoleSettingsToStringPinLaw" = true from by first | (simp [plainName, overriddenIn]; done) | decide +kernel)
theorem cExN1 (l : Launch) (Z : State) (a0 : Array Value) (hw : ∀ d ∈ tables_1, d.before a0 Z = true) (n0 : Nat) (hEW : EW Z a0 consts_1) (i : Nat) (c : Int32) (s sb u ub : Addr) (bs us : List Int32) (m : Nat) (h0 : Heap) (σ : Addr → Prop) (T : Road.Str Z h0 s sb bs) (U : Road.Str Z h0 u ub us) (hbs : bs.length ≤ 2) (hus : us.length ≤ 2) (hm : m < 65536) (hat : ([67, 111, 110, 115, 111, 108, 101, 83, 101, 116, 116, 105, 110, 103, 115, 91, 98, 105, 110, 100, 61] ++ bs ++ [44, 32, 112, 111, 114, 116, 61] ++ Road.decN m ++ [44, 32, 117, 115, 101, 114, 61] ++ us ++ [93])[i]? = some c) (cp : Int32) (Hc : Sta Z Z.heap Road.SN "COMPACT_STRINGS" "Z" (.int cp)) (hcp : ¬ cp = 0) (fm : Value) (hfm : fm.isRef = true) (Hf : Sta Z Z.heap "jdk/internal/util/Preconditions" "SIOOBE_FORMATTER" "Ljava/util/function/BiFunction;" fm) (hreg : i < 21) :
    Road.Con l Z consts_1 n0 false bExN1 [] σ #[(.int (Nat.toInt32 i)), (.ref s), (.int (Nat.toInt32 m)), (.int (Nat.toInt32 (Road.decN m).length)), (.ref u)] h0 (fun v h2 s2 => v = some (.int c) ∧ Keep h0 h2 [] ∧ ∃ l0 m0, s2 (Road.lm n0 8 l0) ∧ Road.Str Z h2 l0 m0 [67, 111, 110, 115, 111, 108, 101, 83, 101, 116, 116, 105, 110, 103, 115, 91, 98, 105, 110, 100, 61]) := by
  have wS : ∀ d ∈ Bundle.stringAtoms, d.before a0 Z = true := fun d hd => hw d ((by decide +kernel : ∀ d ∈ Bundle.stringAtoms, d ∈ tables_1) d hd)
  refine Road.Con.of bExN1_pn hEW #[.val (.int (Nat.toInt32 i)), .val (.ref s), .val (.int (Nat.toInt32 m)), .val (.int (Nat.toInt32 (Road.decN m).length)), .val (.ref u), .unset] (fun m => Road.ent (Road.laid1 rfl (Road.laid1 rfl (Road.laid1 rfl (Road.laid1 rfl (Road.laid1 rfl Road.laid0))))) (k := 1) rfl rfl) ?_
  intro D hD
  have hd5 := Road.decN_le 4 m (by omega)
  obtain ⟨hiX, hcX⟩ := List.getElem?_eq_some_iff.mp hat
  have hlX := hiX
  simp only [List.length_append, List.length_cons, List.length_nil] at hlX
  have hi45 : i < 100 := by omega
  refine Road.iloadN 0 bExp_d0 rfl ?_
  refine Road.bipush 1 (21 : Int32) bExp_d1 rfl ?_
  refine Road.icmp_ge 3 13 bExp_d3 rfl (fun h3 => ?_) (fun h3 => ?_)
  · skip
    rw [show (21 : Int32) = Nat.toInt32 21 from rfl, Road.lt32 (by omega) (by omega)] at h3
    refine Road.iloadN 13 bExp_d13 rfl ?_
    refine Road.bipush 14 (21 : Int32) bExp_d14 rfl ?_
    refine Road.isub 16 bExp_d16 ?_
    refine Road.nameI ?_
    intro z_1 hz_1
    obtain rfl : z_1 = (Nat.toInt32 (i - 21)) := by rw [hz_1]; exact Road.sub32n (j := 21) (by omega)
    refine Road.istore 17 #[.val (.int (Nat.toInt32 i)), .val (.ref s), .val (.int (Nat.toInt32 m)), .val (.int (Nat.toInt32 (Road.decN m).length)), .val (.ref u), .val (.int (Nat.toInt32 (i - 21)))] bExp_d17 rfl ?_
    refine Road.iload 19 bExp_d19 rfl ?_
    refine Road.aloadN 21 bExp_d21 rfl ?_
    refine Road.callV (B' := bLen) (a := s) 22 (argsL := []) (rest := [(.int (Nat.toInt32 (i - 21)))]) "java/lang/String" 1 bExp_d22 (wI hw 278 rfl) (wI hw 90 rfl) (fun vm hz => Road.notFace_sib (args := #[]) (mv (s := D.s.setVm vm) hz (wI hw 57 rfl)) rfl) (wI hw 92 rfl) (wI hw 91 rfl) (wI hw 5 rfl) (wI hw 93 rfl) (by decide) T.1 (cLen l Z a0 hw n0 hEW s sb bs h0 σ T cp Hc hcp) (lenOf bLen_pd rfl) rfl rfl rfl (by decide) (by decide) (ce' := 0) (sl' := 0) rfl rfl (by decide) (by decide) ?_
    rintro _ h_2 σ_3 m_4 ⟨rfl, rfl⟩
    refine Road.Go.weaken (σ' := σ) m_4 (Nat.le_refl _) (Nat.le_refl _) ?_
    refine Road.icmp_ge 25 35 bExp_d25 rfl (fun h25 => ?_) (fun h25 => ?_)
    · skip
      rw [Road.lt32 (by omega) (by omega)] at h25
      refine Road.iload 35 bExp_d35 rfl ?_
      refine Road.aloadN 37 bExp_d37 rfl ?_
      refine Road.callV (B' := bLen) (a := s) 38 (argsL := []) (rest := [(.int (Nat.toInt32 (i - 21)))]) "java/lang/String" 1 bExp_d38 (wI hw 278 rfl) (wI hw 90 rfl) (fun vm hz => Road.notFace_sib (args := #[]) (mv (s := D.s.setVm vm) hz (wI hw 57 rfl)) rfl) (wI hw 92 rfl) (wI hw 91 rfl) (wI hw 5 rfl) (wI hw 93 rfl) (by decide) T.1 (cLen l Z a0 hw n0 hEW s sb bs h0 σ T cp Hc hcp) (lenOf bLen_pd rfl) rfl rfl rfl (by decide) (by decide) (ce' := 0) (sl' := 0) rfl rfl (by decide) (by decide) ?_
      rintro _ h_6 σ_7 m_8 ⟨rfl, rfl⟩
      refine Road.Go.weaken (σ' := σ) m_8 (Nat.le_refl _) (Nat.le_refl _) ?_
      refine Road.isub 41 bExp_d41 ?_
      refine Road.nameI ?_
      intro z_10 hz_10
      obtain rfl : z_10 = (Nat.toInt32 (i - 21 - bs.length)) := by rw [hz_10]; exact Road.sub32n (by omega)
      refine Road.istore 42 #[.val (.int (Nat.toInt32 i)), .val (.ref s), .val (.int (Nat.toInt32 m)), .val (.int (Nat.toInt32 (Road.decN m).length)), .val (.ref u), .val (.int (Nat.toInt32 (i - 21 - bs.length)))] bExp_d42 rfl ?_
      refine Road.iload 44 bExp_d44 rfl ?_
      refine Road.bipush 46 (7 : Int32) bExp_d46 rfl ?_
      refine Road.icmp_ge 48 59 bExp_d48 rfl (fun h48 => ?_) (fun h48 => ?_)
      · skip
        rw [show (7 : Int32) = Nat.toInt32 7 from rfl, Road.lt32 (by omega) (by omega)] at h48
        refine Road.iload 59 bExp_d59 rfl ?_
        refine Road.bipush 61 (7 : Int32) bExp_d61 rfl ?_
        refine Road.isub 63 bExp_d63 ?_
        refine Road.nameI ?_
        intro z_11 hz_11
        obtain rfl : z_11 = (Nat.toInt32 (i - 21 - bs.length - 7)) := by rw [hz_11]; exact Road.sub32n (j := 7) (by omega)
        refine Road.istore 64 #[.val (.int (Nat.toInt32 i)), .val (.ref s), .val (.int (Nat.toInt32 m)), .val (.int (Nat.toInt32 (Road.decN m).length)), .val (.ref u), .val (.int (Nat.toInt32 (i - 21 - bs.length - 7)))] bExp_d64 rfl ?_
        refine Road.iload 66 bExp_d66 rfl ?_
        refine Road.iloadN 68 bExp_d68 rfl ?_
        refine Road.icmp_ge 69 91 bExp_d69 rfl (fun h69 => ?_) (fun h69 => ?_)
        · skip
          rw [Road.lt32 (by omega) (by omega)] at h69
          refine Road.iload 91 bExp_d91 rfl ?_
          refine Road.iloadN 93 bExp_d93 rfl ?_
          refine Road.isub 94 bExp_d94 ?_
          refine Road.nameI ?_
          intro z_12 hz_12
          obtain rfl : z_12 = (Nat.toInt32 (i - 21 - bs.length - 7 - (Road.decN m).length)) := by rw [hz_12]; exact Road.sub32n (by omega)
          refine Road.istore 95 #[.val (.int (Nat.toInt32 i)), .val (.ref s), .val (.int (Nat.toInt32 m)), .val (.int (Nat.toInt32 (Road.decN m).length)), .val (.ref u), .val (.int (Nat.toInt32 (i - 21 - bs.length - 7 - (Road.decN m).length)))] bExp_d95 rfl ?_
          refine Road.iload 97 bExp_d97 rfl ?_
          refine Road.bipush 99 (7 : Int32) bExp_d99 rfl ?_
          refine Road.icmp_ge 101 112 bExp_d101 rfl (fun h101 => ?_) (fun h101 => ?_)
          · skip
            rw [show (7 : Int32) = Nat.toInt32 7 from rfl, Road.lt32 (by omega) (by omega)] at h101
            exfalso; omega
          · skip
            rw [show (7 : Int32) = Nat.toInt32 7 from rfl, Road.lt32 (by omega) (by omega)] at h101
            exfalso; omega
        · skip
          rw [Road.lt32 (by omega) (by omega)] at h69
          exfalso; omega
      · skip
        rw [show (7 : Int32) = Nat.toInt32 7 from rfl, Road.lt32 (by omega) (by omega)] at h48
        exfalso; omega
    · skip
      rw [Road.lt32 (by omega) (by omega)] at h25
      refine Road.aloadN 28 bExp_d28 rfl ?_
      refine Road.iload 29 bExp_d29 rfl ?_
      have ht : bs[i - 21]? = some c := by rw [List.getElem?_append_left (by simp only [List.length_append, List.length_cons, List.length_nil]; omega), List.getElem?_append_left (by simp only [List.length_append, List.length_cons, List.length_nil]; omega), List.getElem?_append_left (by simp only [List.length_append, List.length_cons, List.length_nil]; omega), List.getElem?_append_left (by simp only [List.length_append, List.length_cons, List.length_nil]; omega), List.getElem?_append_left (by simp only [List.length_append, List.length_cons, List.length_nil]; omega), List.getElem?_append_right (by simp only [List.length_append, List.length_cons, List.length_nil]; omega), show i - (([67, 111, 110, 115, 111, 108, 101, 83, 101, 116, 116, 105, 110, 103, 115, 91, 98, 105, 110, 100, 61] : List Int32)).length = i - 21 from by simp only [List.length_append, List.length_cons, List.length_nil] <;> omega] at hat; exact hat
      obtain ⟨hi2, hv2⟩ := List.getElem?_eq_some_iff.mp ht
      refine Road.callV (B' := bChA) (a := s) 31 (argsL := [(.int (Nat.toInt32 (i - 21)))]) (rest := []) "java/lang/String" 0 bExp_d31 (wI hw 285 rfl) (wI hw 286 rfl) (fun vm hz => Road.notFace_sib (args := #[]) (mv (s := D.s.setVm vm) hz (wI hw 57 rfl)) rfl) (wI hw 288 rfl) (wI hw 287 rfl) (wI hw 5 rfl) (wI hw 289 rfl) (by decide) T.1 (cChA l Z a0 hw n0 hEW s sb bs (Nat.toInt32 (i - 21)) (i - 21) h0 σ T (Road.n32 (by omega)) hi2 cp Hc hcp fm hfm Hf) (lenOf bChA_pd rfl) rfl rfl rfl (by decide) (by decide) (ce' := 0) (sl' := 0) rfl rfl (by decide) (by decide) ?_
      rintro _ h_13 σ_14 m_15 ⟨rfl, rfl⟩
      refine Road.Go.weaken (σ' := σ) m_15 (Nat.le_refl _) (Nat.le_refl _) ?_
      refine Road.nameI ?_
      intro z hz
      rw [hv2] at hz
      subst hz
      exfalso; omega
  · skip
    rw [show (21 : Int32) = Nat.toInt32 21 from rfl, Road.lt32 (by omega) (by omega)] at h3
    have hreg1 : i < 21 := h3
    refine Road.ldcS 6 "ConsoleSettings[bind=" [(67 : Int32), (111 : Int32), (110 : Int32), (115 : Int32), (111 : Int32), (108 : Int32), (101 : Int32), (83 : Int32), (101 : Int32), (116 : Int32), (116 : Int32), (105 : Int32), (110 : Int32), (103 : Int32), (115 : Int32), (91 : Int32), (98 : Int32), (105 : Int32), (110 : Int32), (100 : Int32), (61 : Int32)] 84 bExp_d6 (wI hw 303 rfl) wS (List.mem_of_getElem? (i := 8) rfl) (by decide) (by decide +kernel) (by decide) (by decide) (by decide) (ce' := 2) (sl' := 88) rfl rfl (by decide) (by decide) ?_
    intro l0 m0 h_17 σ_18 K_19 m_20 SL q_21 mk_22
    refine Road.iloadN 8 bExp_d8 rfl ?_
    have ht : ([67, 111, 110, 115, 111, 108, 101, 83, 101, 116, 116, 105, 110, 103, 115, 91, 98, 105, 110, 100, 61] : List Int32)[i]? = some c := by rw [List.getElem?_append_left (by simp only [List.length_append, List.length_cons, List.length_nil]; omega), List.getElem?_append_left (by simp only [List.length_append, List.length_cons, List.length_nil]; omega), List.getElem?_append_left (by simp only [List.length_append, List.length_cons, List.length_nil]; omega), List.getElem?_append_left (by simp only [List.length_append, List.length_cons, List.length_nil]; omega), List.getElem?_append_left (by simp only [List.length_append, List.length_cons, List.length_nil]; omega), List.getElem?_append_left (by simp only [List.length_append, List.length_cons, List.length_nil]; omega)] at hat; exact hat
    obtain ⟨hi2, hv2⟩ := List.getElem?_eq_some_iff.mp ht
    refine Road.callV (B' := bChA) (a := l0) 9 (argsL := [(.int (Nat.toInt32 i))]) (rest := []) "java/lang/String" 0 bExp_d9 (wI hw 285 rfl) (wI hw 286 rfl) (fun vm hz => Road.notFace_sib (args := #[]) (mv (s := D.s.setVm vm) hz (wI hw 57 rfl)) rfl) (wI hw 288 rfl) (wI hw 287 rfl) (wI hw 5 rfl) (wI hw 289 rfl) (by decide) SL.1 (cChA l Z a0 hw n0 hEW l0 m0 ([67, 111, 110, 115, 111, 108, 101, 83, 101, 116, 116, 105, 110, 103, 115, 91, 98, 105, 110, 100, 61] : List Int32) (Nat.toInt32 (i)) (i) h_17 σ_18 SL (Road.n32 (by omega)) hi2 cp Hc hcp fm hfm Hf) (lenOf bChA_pd rfl) rfl rfl rfl (by decide) (by decide) (ce' := 2) (sl' := 88) rfl rfl (by decide) (by decide) ?_
    rintro _ h_23 σ_24 m_25 ⟨rfl, rfl⟩
    refine Road.Go.weaken (σ' := σ_18) m_25 (Nat.le_refl _) (Nat.le_refl _) ?_
    refine Road.nameI ?_
    intro z hz
    rw [hv2] at hz
    subst hz
    exact Road.iret 12 z bExp_d12 (t := .char) rfl (by simp) (Road.nar_lat (hv2 ▸ SL.2.2.2.2 _ (List.getElem_mem hi2))) (by decide) (by decide) (fun σ' m => ⟨rfl, K_19, l0, m0, m _ (mk_22 8 (by decide) rfl), SL⟩)
def bExN2 : Road.Bdy := (⟨"com/example/orderly_tasks/orderlytasks/ConsoleSettingsToStringPinLaw", "exp", "(ILjava/lang/String;IILjava/lang/String;)C"⟩, method_5_code, 6, (some .char), { frames := 4, cells := 2, slots := 32, locals := 53 })
theorem bExN2_pd : parseMethodDescriptor "(ILjava/lang/String;IILjava/lang/String;)C" = some ⟨[.int, (.object "java/lang/String"), .int, .int, (.object "java/lang/String")], (some .char)⟩ := by decide +kernel
theorem bExN2_pn : plainFor bExN2.y = true := plainFor_of_name (show plainName "com/example/orderly_tasks/orderlytasks/ConsoleSettingsToStringPinLaw" = true from by first | (simp [plainName, overriddenIn]; done) | decide +kernel)
theorem cExN2 (l : Launch) (Z : State) (a0 : Array Value) (hw : ∀ d ∈ tables_1, d.before a0 Z = true) (n0 : Nat) (hEW : EW Z a0 consts_1) (i : Nat) (c : Int32) (s sb u ub : Addr) (bs us : List Int32) (m : Nat) (h0 : Heap) (σ : Addr → Prop) (T : Road.Str Z h0 s sb bs) (U : Road.Str Z h0 u ub us) (hbs : bs.length ≤ 2) (hus : us.length ≤ 2) (hm : m < 65536) (hat : ([67, 111, 110, 115, 111, 108, 101, 83, 101, 116, 116, 105, 110, 103, 115, 91, 98, 105, 110, 100, 61] ++ bs ++ [44, 32, 112, 111, 114, 116, 61] ++ Road.decN m ++ [44, 32, 117, 115, 101, 114, 61] ++ us ++ [93])[i]? = some c) (cp : Int32) (Hc : Sta Z Z.heap Road.SN "COMPACT_STRINGS" "Z" (.int cp)) (hcp : ¬ cp = 0) (fm : Value) (hfm : fm.isRef = true) (Hf : Sta Z Z.heap "jdk/internal/util/Preconditions" "SIOOBE_FORMATTER" "Ljava/util/function/BiFunction;" fm) (hreg : 21 + bs.length ≤ i ∧ i < 28 + bs.length) :
    Road.Con l Z consts_1 n0 false bExN2 [] σ #[(.int (Nat.toInt32 i)), (.ref s), (.int (Nat.toInt32 m)), (.int (Nat.toInt32 (Road.decN m).length)), (.ref u)] h0 (fun v h2 s2 => v = some (.int c) ∧ Keep h0 h2 [] ∧ ∃ l0 m0, s2 (Road.lm n0 9 l0) ∧ Road.Str Z h2 l0 m0 [44, 32, 112, 111, 114, 116, 61]) := by
  have wS : ∀ d ∈ Bundle.stringAtoms, d.before a0 Z = true := fun d hd => hw d ((by decide +kernel : ∀ d ∈ Bundle.stringAtoms, d ∈ tables_1) d hd)
  refine Road.Con.of bExN2_pn hEW #[.val (.int (Nat.toInt32 i)), .val (.ref s), .val (.int (Nat.toInt32 m)), .val (.int (Nat.toInt32 (Road.decN m).length)), .val (.ref u), .unset] (fun m => Road.ent (Road.laid1 rfl (Road.laid1 rfl (Road.laid1 rfl (Road.laid1 rfl (Road.laid1 rfl Road.laid0))))) (k := 1) rfl rfl) ?_
  intro D hD
  have hd5 := Road.decN_le 4 m (by omega)
  obtain ⟨hiX, hcX⟩ := List.getElem?_eq_some_iff.mp hat
  have hlX := hiX
  simp only [List.length_append, List.length_cons, List.length_nil] at hlX
  have hi45 : i < 100 := by omega
  refine Road.iloadN 0 bExp_d0 rfl ?_
  refine Road.bipush 1 (21 : Int32) bExp_d1 rfl ?_
  refine Road.icmp_ge 3 13 bExp_d3 rfl (fun h3 => ?_) (fun h3 => ?_)
  · skip
    rw [show (21 : Int32) = Nat.toInt32 21 from rfl, Road.lt32 (by omega) (by omega)] at h3
    refine Road.iloadN 13 bExp_d13 rfl ?_
    refine Road.bipush 14 (21 : Int32) bExp_d14 rfl ?_
    refine Road.isub 16 bExp_d16 ?_
    refine Road.nameI ?_
    intro z_1 hz_1
    obtain rfl : z_1 = (Nat.toInt32 (i - 21)) := by rw [hz_1]; exact Road.sub32n (j := 21) (by omega)
    refine Road.istore 17 #[.val (.int (Nat.toInt32 i)), .val (.ref s), .val (.int (Nat.toInt32 m)), .val (.int (Nat.toInt32 (Road.decN m).length)), .val (.ref u), .val (.int (Nat.toInt32 (i - 21)))] bExp_d17 rfl ?_
    refine Road.iload 19 bExp_d19 rfl ?_
    refine Road.aloadN 21 bExp_d21 rfl ?_
    refine Road.callV (B' := bLen) (a := s) 22 (argsL := []) (rest := [(.int (Nat.toInt32 (i - 21)))]) "java/lang/String" 1 bExp_d22 (wI hw 278 rfl) (wI hw 90 rfl) (fun vm hz => Road.notFace_sib (args := #[]) (mv (s := D.s.setVm vm) hz (wI hw 57 rfl)) rfl) (wI hw 92 rfl) (wI hw 91 rfl) (wI hw 5 rfl) (wI hw 93 rfl) (by decide) T.1 (cLen l Z a0 hw n0 hEW s sb bs h0 σ T cp Hc hcp) (lenOf bLen_pd rfl) rfl rfl rfl (by decide) (by decide) (ce' := 0) (sl' := 0) rfl rfl (by decide) (by decide) ?_
    rintro _ h_2 σ_3 m_4 ⟨rfl, rfl⟩
    refine Road.Go.weaken (σ' := σ) m_4 (Nat.le_refl _) (Nat.le_refl _) ?_
    refine Road.icmp_ge 25 35 bExp_d25 rfl (fun h25 => ?_) (fun h25 => ?_)
    · skip
      rw [Road.lt32 (by omega) (by omega)] at h25
      refine Road.iload 35 bExp_d35 rfl ?_
      refine Road.aloadN 37 bExp_d37 rfl ?_
      refine Road.callV (B' := bLen) (a := s) 38 (argsL := []) (rest := [(.int (Nat.toInt32 (i - 21)))]) "java/lang/String" 1 bExp_d38 (wI hw 278 rfl) (wI hw 90 rfl) (fun vm hz => Road.notFace_sib (args := #[]) (mv (s := D.s.setVm vm) hz (wI hw 57 rfl)) rfl) (wI hw 92 rfl) (wI hw 91 rfl) (wI hw 5 rfl) (wI hw 93 rfl) (by decide) T.1 (cLen l Z a0 hw n0 hEW s sb bs h0 σ T cp Hc hcp) (lenOf bLen_pd rfl) rfl rfl rfl (by decide) (by decide) (ce' := 0) (sl' := 0) rfl rfl (by decide) (by decide) ?_
      rintro _ h_6 σ_7 m_8 ⟨rfl, rfl⟩
      refine Road.Go.weaken (σ' := σ) m_8 (Nat.le_refl _) (Nat.le_refl _) ?_
      refine Road.isub 41 bExp_d41 ?_
      refine Road.nameI ?_
      intro z_10 hz_10
      obtain rfl : z_10 = (Nat.toInt32 (i - 21 - bs.length)) := by rw [hz_10]; exact Road.sub32n (by omega)
      refine Road.istore 42 #[.val (.int (Nat.toInt32 i)), .val (.ref s), .val (.int (Nat.toInt32 m)), .val (.int (Nat.toInt32 (Road.decN m).length)), .val (.ref u), .val (.int (Nat.toInt32 (i - 21 - bs.length)))] bExp_d42 rfl ?_
      refine Road.iload 44 bExp_d44 rfl ?_
      refine Road.bipush 46 (7 : Int32) bExp_d46 rfl ?_
      refine Road.icmp_ge 48 59 bExp_d48 rfl (fun h48 => ?_) (fun h48 => ?_)
      · skip
        rw [show (7 : Int32) = Nat.toInt32 7 from rfl, Road.lt32 (by omega) (by omega)] at h48
        refine Road.iload 59 bExp_d59 rfl ?_
        refine Road.bipush 61 (7 : Int32) bExp_d61 rfl ?_
        refine Road.isub 63 bExp_d63 ?_
        refine Road.nameI ?_
        intro z_11 hz_11
        obtain rfl : z_11 = (Nat.toInt32 (i - 21 - bs.length - 7)) := by rw [hz_11]; exact Road.sub32n (j := 7) (by omega)
        refine Road.istore 64 #[.val (.int (Nat.toInt32 i)), .val (.ref s), .val (.int (Nat.toInt32 m)), .val (.int (Nat.toInt32 (Road.decN m).length)), .val (.ref u), .val (.int (Nat.toInt32 (i - 21 - bs.length - 7)))] bExp_d64 rfl ?_
        refine Road.iload 66 bExp_d66 rfl ?_
        refine Road.iloadN 68 bExp_d68 rfl ?_
        refine Road.icmp_ge 69 91 bExp_d69 rfl (fun h69 => ?_) (fun h69 => ?_)
        · skip
          rw [Road.lt32 (by omega) (by omega)] at h69
          refine Road.iload 91 bExp_d91 rfl ?_
          refine Road.iloadN 93 bExp_d93 rfl ?_
          refine Road.isub 94 bExp_d94 ?_
          refine Road.nameI ?_
          intro z_12 hz_12
          obtain rfl : z_12 = (Nat.toInt32 (i - 21 - bs.length - 7 - (Road.decN m).length)) := by rw [hz_12]; exact Road.sub32n (by omega)
          refine Road.istore 95 #[.val (.int (Nat.toInt32 i)), .val (.ref s), .val (.int (Nat.toInt32 m)), .val (.int (Nat.toInt32 (Road.decN m).length)), .val (.ref u), .val (.int (Nat.toInt32 (i - 21 - bs.length - 7 - (Road.decN m).length)))] bExp_d95 rfl ?_
          refine Road.iload 97 bExp_d97 rfl ?_
          refine Road.bipush 99 (7 : Int32) bExp_d99 rfl ?_
          refine Road.icmp_ge 101 112 bExp_d101 rfl (fun h101 => ?_) (fun h101 => ?_)
          · skip
            rw [show (7 : Int32) = Nat.toInt32 7 from rfl, Road.lt32 (by omega) (by omega)] at h101
            exfalso; omega
          · skip
            rw [show (7 : Int32) = Nat.toInt32 7 from rfl, Road.lt32 (by omega) (by omega)] at h101
            exfalso; omega
        · skip
          rw [Road.lt32 (by omega) (by omega)] at h69
          exfalso; omega
      · skip
        rw [show (7 : Int32) = Nat.toInt32 7 from rfl, Road.lt32 (by omega) (by omega)] at h48
        refine Road.ldcS 51 ", port=" [(44 : Int32), (32 : Int32), (112 : Int32), (111 : Int32), (114 : Int32), (116 : Int32), (61 : Int32)] 28 bExp_d51 (wI hw 304 rfl) wS (List.mem_of_getElem? (i := 9) rfl) (by decide) (by decide +kernel) (by decide) (by decide) (by decide) (ce' := 2) (sl' := 32) rfl rfl (by decide) (by decide) ?_
        intro l0 m0 h_13 σ_14 K_15 m_16 SL q_17 mk_18
        refine Road.iload 53 bExp_d53 rfl ?_
        have ht : ([44, 32, 112, 111, 114, 116, 61] : List Int32)[i - 21 - bs.length]? = some c := by rw [List.getElem?_append_left (by simp only [List.length_append, List.length_cons, List.length_nil]; omega), List.getElem?_append_left (by simp only [List.length_append, List.length_cons, List.length_nil]; omega), List.getElem?_append_left (by simp only [List.length_append, List.length_cons, List.length_nil]; omega), List.getElem?_append_left (by simp only [List.length_append, List.length_cons, List.length_nil]; omega), List.getElem?_append_right (by simp only [List.length_append, List.length_cons, List.length_nil]; omega), show i - (([67, 111, 110, 115, 111, 108, 101, 83, 101, 116, 116, 105, 110, 103, 115, 91, 98, 105, 110, 100, 61] : List Int32) ++ bs).length = i - 21 - bs.length from by simp only [List.length_append, List.length_cons, List.length_nil] <;> omega] at hat; exact hat
        obtain ⟨hi2, hv2⟩ := List.getElem?_eq_some_iff.mp ht
        refine Road.callV (B' := bChA) (a := l0) 55 (argsL := [(.int (Nat.toInt32 (i - 21 - bs.length)))]) (rest := []) "java/lang/String" 0 bExp_d55 (wI hw 285 rfl) (wI hw 286 rfl) (fun vm hz => Road.notFace_sib (args := #[]) (mv (s := D.s.setVm vm) hz (wI hw 57 rfl)) rfl) (wI hw 288 rfl) (wI hw 287 rfl) (wI hw 5 rfl) (wI hw 289 rfl) (by decide) SL.1 (cChA l Z a0 hw n0 hEW l0 m0 ([44, 32, 112, 111, 114, 116, 61] : List Int32) (Nat.toInt32 (i - 21 - bs.length)) (i - 21 - bs.length) h_13 σ_14 SL (Road.n32 (by omega)) hi2 cp Hc hcp fm hfm Hf) (lenOf bChA_pd rfl) rfl rfl rfl (by decide) (by decide) (ce' := 2) (sl' := 32) rfl rfl (by decide) (by decide) ?_
        rintro _ h_19 σ_20 m_21 ⟨rfl, rfl⟩
        refine Road.Go.weaken (σ' := σ_14) m_21 (Nat.le_refl _) (Nat.le_refl _) ?_
        refine Road.nameI ?_
        intro z hz
        rw [hv2] at hz
        subst hz
        exact Road.iret 58 z bExp_d58 (t := .char) rfl (by simp) (Road.nar_lat (hv2 ▸ SL.2.2.2.2 _ (List.getElem_mem hi2))) (by decide) (by decide) (fun σ' m => ⟨rfl, K_15, l0, m0, m _ (mk_18 9 (by decide) rfl), SL⟩)
    · skip
      rw [Road.lt32 (by omega) (by omega)] at h25
      refine Road.aloadN 28 bExp_d28 rfl ?_
      refine Road.iload 29 bExp_d29 rfl ?_
      have ht : bs[i - 21]? = some c := by rw [List.getElem?_append_left (by simp only [List.length_append, List.length_cons, List.length_nil]; omega), List.getElem?_append_left (by simp only [List.length_append, List.length_cons, List.length_nil]; omega), List.getElem?_append_left (by simp only [List.length_append, List.length_cons, List.length_nil]; omega), List.getElem?_append_left (by simp only [List.length_append, List.length_cons, List.length_nil]; omega), List.getElem?_append_left (by simp only [List.length_append, List.length_cons, List.length_nil]; omega), List.getElem?_append_right (by simp only [List.length_append, List.length_cons, List.length_nil]; omega), show i - (([67, 111, 110, 115, 111, 108, 101, 83, 101, 116, 116, 105, 110, 103, 115, 91, 98, 105, 110, 100, 61] : List Int32)).length = i - 21 from by simp only [List.length_append, List.length_cons, List.length_nil] <;> omega] at hat; exact hat
      obtain ⟨hi2, hv2⟩ := List.getElem?_eq_some_iff.mp ht
      refine Road.callV (B' := bChA) (a := s) 31 (argsL := [(.int (Nat.toInt32 (i - 21)))]) (rest := []) "java/lang/String" 0 bExp_d31 (wI hw 285 rfl) (wI hw 286 rfl) (fun vm hz => Road.notFace_sib (args := #[]) (mv (s := D.s.setVm vm) hz (wI hw 57 rfl)) rfl) (wI hw 288 rfl) (wI hw 287 rfl) (wI hw 5 rfl) (wI hw 289 rfl) (by decide) T.1 (cChA l Z a0 hw n0 hEW s sb bs (Nat.toInt32 (i - 21)) (i - 21) h0 σ T (Road.n32 (by omega)) hi2 cp Hc hcp fm hfm Hf) (lenOf bChA_pd rfl) rfl rfl rfl (by decide) (by decide) (ce' := 0) (sl' := 0) rfl rfl (by decide) (by decide) ?_
      rintro _ h_23 σ_24 m_25 ⟨rfl, rfl⟩
      refine Road.Go.weaken (σ' := σ) m_25 (Nat.le_refl _) (Nat.le_refl _) ?_
      refine Road.nameI ?_
      intro z hz
      rw [hv2] at hz
      subst hz
      exfalso; omega
  · skip
    rw [show (21 : Int32) = Nat.toInt32 21 from rfl, Road.lt32 (by omega) (by omega)] at h3
    have hreg1 : i < 21 := h3
    exfalso; omega
def bExN3 : Road.Bdy := (⟨"com/example/orderly_tasks/orderlytasks/ConsoleSettingsToStringPinLaw", "exp", "(ILjava/lang/String;IILjava/lang/String;)C"⟩, method_5_code, 6, (some .char), { frames := 4, cells := 2, slots := 32, locals := 53 })
theorem bExN3_pd : parseMethodDescriptor "(ILjava/lang/String;IILjava/lang/String;)C" = some ⟨[.int, (.object "java/lang/String"), .int, .int, (.object "java/lang/String")], (some .char)⟩ := by decide +kernel
theorem bExN3_pn : plainFor bExN3.y = true := plainFor_of_name (show plainName "com/example/orderly_tasks/orderlytasks/ConsoleSettingsToStringPinLaw" = true from by first | (simp [plainName, overriddenIn]; done) | decide +kernel)
theorem cExN3 (l : Launch) (Z : State) (a0 : Array Value) (hw : ∀ d ∈ tables_1, d.before a0 Z = true) (n0 : Nat) (hEW : EW Z a0 consts_1) (i : Nat) (c : Int32) (s sb u ub : Addr) (bs us : List Int32) (m : Nat) (h0 : Heap) (σ : Addr → Prop) (T : Road.Str Z h0 s sb bs) (U : Road.Str Z h0 u ub us) (hbs : bs.length ≤ 2) (hus : us.length ≤ 2) (hm : m < 65536) (hat : ([67, 111, 110, 115, 111, 108, 101, 83, 101, 116, 116, 105, 110, 103, 115, 91, 98, 105, 110, 100, 61] ++ bs ++ [44, 32, 112, 111, 114, 116, 61] ++ Road.decN m ++ [44, 32, 117, 115, 101, 114, 61] ++ us ++ [93])[i]? = some c) (cp : Int32) (Hc : Sta Z Z.heap Road.SN "COMPACT_STRINGS" "Z" (.int cp)) (hcp : ¬ cp = 0) (fm : Value) (hfm : fm.isRef = true) (Hf : Sta Z Z.heap "jdk/internal/util/Preconditions" "SIOOBE_FORMATTER" "Ljava/util/function/BiFunction;" fm) (hreg : 28 + bs.length + (Road.decN m).length ≤ i ∧ i < 35 + bs.length + (Road.decN m).length) :
    Road.Con l Z consts_1 n0 false bExN3 [] σ #[(.int (Nat.toInt32 i)), (.ref s), (.int (Nat.toInt32 m)), (.int (Nat.toInt32 (Road.decN m).length)), (.ref u)] h0 (fun v h2 s2 => v = some (.int c) ∧ Keep h0 h2 [] ∧ ∃ l0 m0, s2 (Road.lm n0 10 l0) ∧ Road.Str Z h2 l0 m0 [44, 32, 117, 115, 101, 114, 61]) := by
  have wS : ∀ d ∈ Bundle.stringAtoms, d.before a0 Z = true := fun d hd => hw d ((by decide +kernel : ∀ d ∈ Bundle.stringAtoms, d ∈ tables_1) d hd)
  refine Road.Con.of bExN3_pn hEW #[.val (.int (Nat.toInt32 i)), .val (.ref s), .val (.int (Nat.toInt32 m)), .val (.int (Nat.toInt32 (Road.decN m).length)), .val (.ref u), .unset] (fun m => Road.ent (Road.laid1 rfl (Road.laid1 rfl (Road.laid1 rfl (Road.laid1 rfl (Road.laid1 rfl Road.laid0))))) (k := 1) rfl rfl) ?_
  intro D hD
  have hd5 := Road.decN_le 4 m (by omega)
  obtain ⟨hiX, hcX⟩ := List.getElem?_eq_some_iff.mp hat
  have hlX := hiX
  simp only [List.length_append, List.length_cons, List.length_nil] at hlX
  have hi45 : i < 100 := by omega
  refine Road.iloadN 0 bExp_d0 rfl ?_
  refine Road.bipush 1 (21 : Int32) bExp_d1 rfl ?_
  refine Road.icmp_ge 3 13 bExp_d3 rfl (fun h3 => ?_) (fun h3 => ?_)
  · skip
    rw [show (21 : Int32) = Nat.toInt32 21 from rfl, Road.lt32 (by omega) (by omega)] at h3
    refine Road.iloadN 13 bExp_d13 rfl ?_
    refine Road.bipush 14 (21 : Int32) bExp_d14 rfl ?_
    refine Road.isub 16 bExp_d16 ?_
    refine Road.nameI ?_
    intro z_1 hz_1
    obtain rfl : z_1 = (Nat.toInt32 (i - 21)) := by rw [hz_1]; exact Road.sub32n (j := 21) (by omega)
    refine Road.istore 17 #[.val (.int (Nat.toInt32 i)), .val (.ref s), .val (.int (Nat.toInt32 m)), .val (.int (Nat.toInt32 (Road.decN m).length)), .val (.ref u), .val (.int (Nat.toInt32 (i - 21)))] bExp_d17 rfl ?_
    refine Road.iload 19 bExp_d19 rfl ?_
    refine Road.aloadN 21 bExp_d21 rfl ?_
    refine Road.callV (B' := bLen) (a := s) 22 (argsL := []) (rest := [(.int (Nat.toInt32 (i - 21)))]) "java/lang/String" 1 bExp_d22 (wI hw 278 rfl) (wI hw 90 rfl) (fun vm hz => Road.notFace_sib (args := #[]) (mv (s := D.s.setVm vm) hz (wI hw 57 rfl)) rfl) (wI hw 92 rfl) (wI hw 91 rfl) (wI hw 5 rfl) (wI hw 93 rfl) (by decide) T.1 (cLen l Z a0 hw n0 hEW s sb bs h0 σ T cp Hc hcp) (lenOf bLen_pd rfl) rfl rfl rfl (by decide) (by decide) (ce' := 0) (sl' := 0) rfl rfl (by decide) (by decide) ?_
    rintro _ h_2 σ_3 m_4 ⟨rfl, rfl⟩
    refine Road.Go.weaken (σ' := σ) m_4 (Nat.le_refl _) (Nat.le_refl _) ?_
    refine Road.icmp_ge 25 35 bExp_d25 rfl (fun h25 => ?_) (fun h25 => ?_)
    · skip
      rw [Road.lt32 (by omega) (by omega)] at h25
      refine Road.iload 35 bExp_d35 rfl ?_
      refine Road.aloadN 37 bExp_d37 rfl ?_
      refine Road.callV (B' := bLen) (a := s) 38 (argsL := []) (rest := [(.int (Nat.toInt32 (i - 21)))]) "java/lang/String" 1 bExp_d38 (wI hw 278 rfl) (wI hw 90 rfl) (fun vm hz => Road.notFace_sib (args := #[]) (mv (s := D.s.setVm vm) hz (wI hw 57 rfl)) rfl) (wI hw 92 rfl) (wI hw 91 rfl) (wI hw 5 rfl) (wI hw 93 rfl) (by decide) T.1 (cLen l Z a0 hw n0 hEW s sb bs h0 σ T cp Hc hcp) (lenOf bLen_pd rfl) rfl rfl rfl (by decide) (by decide) (ce' := 0) (sl' := 0) rfl rfl (by decide) (by decide) ?_
      rintro _ h_6 σ_7 m_8 ⟨rfl, rfl⟩
      refine Road.Go.weaken (σ' := σ) m_8 (Nat.le_refl _) (Nat.le_refl _) ?_
      refine Road.isub 41 bExp_d41 ?_
      refine Road.nameI ?_
      intro z_10 hz_10
      obtain rfl : z_10 = (Nat.toInt32 (i - 21 - bs.length)) := by rw [hz_10]; exact Road.sub32n (by omega)
      refine Road.istore 42 #[.val (.int (Nat.toInt32 i)), .val (.ref s), .val (.int (Nat.toInt32 m)), .val (.int (Nat.toInt32 (Road.decN m).length)), .val (.ref u), .val (.int (Nat.toInt32 (i - 21 - bs.length)))] bExp_d42 rfl ?_
      refine Road.iload 44 bExp_d44 rfl ?_
      refine Road.bipush 46 (7 : Int32) bExp_d46 rfl ?_
      refine Road.icmp_ge 48 59 bExp_d48 rfl (fun h48 => ?_) (fun h48 => ?_)
      · skip
        rw [show (7 : Int32) = Nat.toInt32 7 from rfl, Road.lt32 (by omega) (by omega)] at h48
        refine Road.iload 59 bExp_d59 rfl ?_
        refine Road.bipush 61 (7 : Int32) bExp_d61 rfl ?_
        refine Road.isub 63 bExp_d63 ?_
        refine Road.nameI ?_
        intro z_11 hz_11
        obtain rfl : z_11 = (Nat.toInt32 (i - 21 - bs.length - 7)) := by rw [hz_11]; exact Road.sub32n (j := 7) (by omega)
        refine Road.istore 64 #[.val (.int (Nat.toInt32 i)), .val (.ref s), .val (.int (Nat.toInt32 m)), .val (.int (Nat.toInt32 (Road.decN m).length)), .val (.ref u), .val (.int (Nat.toInt32 (i - 21 - bs.length - 7)))] bExp_d64 rfl ?_
        refine Road.iload 66 bExp_d66 rfl ?_
        refine Road.iloadN 68 bExp_d68 rfl ?_
        refine Road.icmp_ge 69 91 bExp_d69 rfl (fun h69 => ?_) (fun h69 => ?_)
        · skip
          rw [Road.lt32 (by omega) (by omega)] at h69
          refine Road.iload 91 bExp_d91 rfl ?_
          refine Road.iloadN 93 bExp_d93 rfl ?_
          refine Road.isub 94 bExp_d94 ?_
          refine Road.nameI ?_
          intro z_12 hz_12
          obtain rfl : z_12 = (Nat.toInt32 (i - 21 - bs.length - 7 - (Road.decN m).length)) := by rw [hz_12]; exact Road.sub32n (by omega)
          refine Road.istore 95 #[.val (.int (Nat.toInt32 i)), .val (.ref s), .val (.int (Nat.toInt32 m)), .val (.int (Nat.toInt32 (Road.decN m).length)), .val (.ref u), .val (.int (Nat.toInt32 (i - 21 - bs.length - 7 - (Road.decN m).length)))] bExp_d95 rfl ?_
          refine Road.iload 97 bExp_d97 rfl ?_
          refine Road.bipush 99 (7 : Int32) bExp_d99 rfl ?_
          refine Road.icmp_ge 101 112 bExp_d101 rfl (fun h101 => ?_) (fun h101 => ?_)
          · skip
            rw [show (7 : Int32) = Nat.toInt32 7 from rfl, Road.lt32 (by omega) (by omega)] at h101
            exfalso; omega
          · skip
            rw [show (7 : Int32) = Nat.toInt32 7 from rfl, Road.lt32 (by omega) (by omega)] at h101
            refine Road.ldcS 104 ", user=" [(44 : Int32), (32 : Int32), (117 : Int32), (115 : Int32), (101 : Int32), (114 : Int32), (61 : Int32)] 28 bExp_d104 (wI hw 308 rfl) wS (List.mem_of_getElem? (i := 10) rfl) (by decide) (by decide +kernel) (by decide) (by decide) (by decide) (ce' := 2) (sl' := 32) rfl rfl (by decide) (by decide) ?_
            intro l0 m0 h_13 σ_14 K_15 m_16 SL q_17 mk_18
            refine Road.iload 106 bExp_d106 rfl ?_
            have ht : ([44, 32, 117, 115, 101, 114, 61] : List Int32)[i - 21 - bs.length - 7 - (Road.decN m).length]? = some c := by rw [List.getElem?_append_left (by simp only [List.length_append, List.length_cons, List.length_nil]; omega), List.getElem?_append_left (by simp only [List.length_append, List.length_cons, List.length_nil]; omega), List.getElem?_append_right (by simp only [List.length_append, List.length_cons, List.length_nil]; omega), show i - (([67, 111, 110, 115, 111, 108, 101, 83, 101, 116, 116, 105, 110, 103, 115, 91, 98, 105, 110, 100, 61] : List Int32) ++ bs ++ ([44, 32, 112, 111, 114, 116, 61] : List Int32) ++ Road.decN m).length = i - 21 - bs.length - 7 - (Road.decN m).length from by simp only [List.length_append, List.length_cons, List.length_nil] <;> omega] at hat; exact hat
            obtain ⟨hi2, hv2⟩ := List.getElem?_eq_some_iff.mp ht
            refine Road.callV (B' := bChA) (a := l0) 108 (argsL := [(.int (Nat.toInt32 (i - 21 - bs.length - 7 - (Road.decN m).length)))]) (rest := []) "java/lang/String" 0 bExp_d108 (wI hw 285 rfl) (wI hw 286 rfl) (fun vm hz => Road.notFace_sib (args := #[]) (mv (s := D.s.setVm vm) hz (wI hw 57 rfl)) rfl) (wI hw 288 rfl) (wI hw 287 rfl) (wI hw 5 rfl) (wI hw 289 rfl) (by decide) SL.1 (cChA l Z a0 hw n0 hEW l0 m0 ([44, 32, 117, 115, 101, 114, 61] : List Int32) (Nat.toInt32 (i - 21 - bs.length - 7 - (Road.decN m).length)) (i - 21 - bs.length - 7 - (Road.decN m).length) h_13 σ_14 SL (Road.n32 (by omega)) hi2 cp Hc hcp fm hfm Hf) (lenOf bChA_pd rfl) rfl rfl rfl (by decide) (by decide) (ce' := 2) (sl' := 32) rfl rfl (by decide) (by decide) ?_
            rintro _ h_19 σ_20 m_21 ⟨rfl, rfl⟩
            refine Road.Go.weaken (σ' := σ_14) m_21 (Nat.le_refl _) (Nat.le_refl _) ?_
            refine Road.nameI ?_
            intro z hz
            rw [hv2] at hz
            subst hz
            exact Road.iret 111 z bExp_d111 (t := .char) rfl (by simp) (Road.nar_lat (hv2 ▸ SL.2.2.2.2 _ (List.getElem_mem hi2))) (by decide) (by decide) (fun σ' m => ⟨rfl, K_15, l0, m0, m _ (mk_18 10 (by decide) rfl), SL⟩)
        · skip
          rw [Road.lt32 (by omega) (by omega)] at h69
          exfalso; omega
      · skip
        rw [show (7 : Int32) = Nat.toInt32 7 from rfl, Road.lt32 (by omega) (by omega)] at h48
        exfalso; omega
    · skip
      rw [Road.lt32 (by omega) (by omega)] at h25
      refine Road.aloadN 28 bExp_d28 rfl ?_
      refine Road.iload 29 bExp_d29 rfl ?_
      have ht : bs[i - 21]? = some c := by rw [List.getElem?_append_left (by simp only [List.length_append, List.length_cons, List.length_nil]; omega), List.getElem?_append_left (by simp only [List.length_append, List.length_cons, List.length_nil]; omega), List.getElem?_append_left (by simp only [List.length_append, List.length_cons, List.length_nil]; omega), List.getElem?_append_left (by simp only [List.length_append, List.length_cons, List.length_nil]; omega), List.getElem?_append_left (by simp only [List.length_append, List.length_cons, List.length_nil]; omega), List.getElem?_append_right (by simp only [List.length_append, List.length_cons, List.length_nil]; omega), show i - (([67, 111, 110, 115, 111, 108, 101, 83, 101, 116, 116, 105, 110, 103, 115, 91, 98, 105, 110, 100, 61] : List Int32)).length = i - 21 from by simp only [List.length_append, List.length_cons, List.length_nil] <;> omega] at hat; exact hat
      obtain ⟨hi2, hv2⟩ := List.getElem?_eq_some_iff.mp ht
      refine Road.callV (B' := bChA) (a := s) 31 (argsL := [(.int (Nat.toInt32 (i - 21)))]) (rest := []) "java/lang/String" 0 bExp_d31 (wI hw 285 rfl) (wI hw 286 rfl) (fun vm hz => Road.notFace_sib (args := #[]) (mv (s := D.s.setVm vm) hz (wI hw 57 rfl)) rfl) (wI hw 288 rfl) (wI hw 287 rfl) (wI hw 5 rfl) (wI hw 289 rfl) (by decide) T.1 (cChA l Z a0 hw n0 hEW s sb bs (Nat.toInt32 (i - 21)) (i - 21) h0 σ T (Road.n32 (by omega)) hi2 cp Hc hcp fm hfm Hf) (lenOf bChA_pd rfl) rfl rfl rfl (by decide) (by decide) (ce' := 0) (sl' := 0) rfl rfl (by decide) (by decide) ?_
      rintro _ h_23 σ_24 m_25 ⟨rfl, rfl⟩
      refine Road.Go.weaken (σ' := σ) m_25 (Nat.le_refl _) (Nat.le_refl _) ?_
      refine Road.nameI ?_
      intro z hz
      rw [hv2] at hz
      subst hz
      exfalso; omega
  · skip
    rw [show (21 : Int32) = Nat.toInt32 21 from rfl, Road.lt32 (by omega) (by omega)] at h3
    have hreg1 : i < 21 := h3
    exfalso; omega
def bAt0 : Road.Bdy := (⟨"com/example/orderly_tasks/orderlytasks/ConsoleSettingsToStringPinLaw", "at", "(Ljava/lang/String;ILjava/lang/String;IILjava/lang/String;)Z"⟩, method_6_code, 6, (some .boolean), { frames := 5, cells := 0, slots := 0, locals := 71 })
theorem bAt0_d0 : decode bAt0.bs 0 = .ok (.iload_n 1, 1) := by decide +kernel
theorem bAt0_d1 : decode bAt0.bs 1 = .ok (.aload_n 0, 1) := by decide +kernel
theorem bAt0_d2 : decode bAt0.bs 2 = .ok (.invokevirtual 35, 3) := by decide +kernel
theorem bAt0_d5 : decode bAt0.bs 5 = .ok (.if_icmp .ge 21, 3) := by decide +kernel
theorem bAt0_d8 : decode bAt0.bs 8 = .ok (.aload_n 0, 1) := by decide +kernel
theorem bAt0_d9 : decode bAt0.bs 9 = .ok (.iload_n 1, 1) := by decide +kernel
theorem bAt0_d10 : decode bAt0.bs 10 = .ok (.invokevirtual 45, 3) := by decide +kernel
theorem bAt0_d13 : decode bAt0.bs 13 = .ok (.iload_n 1, 1) := by decide +kernel
theorem bAt0_d14 : decode bAt0.bs 14 = .ok (.aload_n 2, 1) := by decide +kernel
theorem bAt0_d15 : decode bAt0.bs 15 = .ok (.iload_n 3, 1) := by decide +kernel
theorem bAt0_d16 : decode bAt0.bs 16 = .ok (.iload 4, 2) := by decide +kernel
theorem bAt0_d18 : decode bAt0.bs 18 = .ok (.aload 5, 2) := by decide +kernel
theorem bAt0_d20 : decode bAt0.bs 20 = .ok (.invokestatic 56, 3) := by decide +kernel
theorem bAt0_d23 : decode bAt0.bs 23 = .ok (.if_icmp .ne 7, 3) := by decide +kernel
theorem bAt0_d26 : decode bAt0.bs 26 = .ok (.iconst 1, 1) := by decide +kernel
theorem bAt0_d27 : decode bAt0.bs 27 = .ok (.goto 4, 3) := by decide +kernel
theorem bAt0_d30 : decode bAt0.bs 30 = .ok (.iconst 0, 1) := by decide +kernel
theorem bAt0_d31 : decode bAt0.bs 31 = .ok (.ireturn, 1) := by decide +kernel
theorem bAt0_pd : parseMethodDescriptor "(Ljava/lang/String;ILjava/lang/String;IILjava/lang/String;)Z" = some ⟨[(.object "java/lang/String"), .int, (.object "java/lang/String"), .int, .int, (.object "java/lang/String")], (some .boolean)⟩ := by decide +kernel
theorem bAt0_pn : plainFor bAt0.y = true := plainFor_of_name (show plainName "com/example/orderly_tasks/orderlytasks/ConsoleSettingsToStringPinLaw" = true from by first | (simp [plainName, overriddenIn]; done) | decide +kernel)
theorem cAt0 (l : Launch) (Z : State) (a0 : Array Value) (hw : ∀ d ∈ tables_1, d.before a0 Z = true) (n0 : Nat) (hEW : EW Z a0 consts_1) (t td : Addr) (i : Nat) (s sb u ub : Addr) (bs us : List Int32) (m : Nat) (l1 m1 l2 m2 l3 m3 : Addr) (h0 : Heap) (σ : Addr → Prop) (Tt : Road.Str Z h0 t td ([67, 111, 110, 115, 111, 108, 101, 83, 101, 116, 116, 105, 110, 103, 115, 91, 98, 105, 110, 100, 61] ++ bs ++ [44, 32, 112, 111, 114, 116, 61] ++ Road.decN m ++ [44, 32, 117, 115, 101, 114, 61] ++ us ++ [93])) (T : Road.Str Z h0 s sb bs) (U : Road.Str Z h0 u ub us) (hbs : bs.length ≤ 2) (hus : us.length ≤ 2) (hm : m < 65536) (hi1 : i < 1000) (cp : Int32) (Hc : Sta Z Z.heap Road.SN "COMPACT_STRINGS" "Z" (.int cp)) (hcp : ¬ cp = 0) (fm : Value) (hfm : fm.isRef = true) (Hf : Sta Z Z.heap "jdk/internal/util/Preconditions" "SIOOBE_FORMATTER" "Ljava/util/function/BiFunction;" fm) (K1 : i < 21 → (σ (Road.lm n0 8 l1) ∧ Road.Str Z h0 l1 m1 [67, 111, 110, 115, 111, 108, 101, 83, 101, 116, 116, 105, 110, 103, 115, 91, 98, 105, 110, 100, 61])) (K2 : 21 + bs.length ≤ i → i < 28 + bs.length → (σ (Road.lm n0 9 l2) ∧ Road.Str Z h0 l2 m2 [44, 32, 112, 111, 114, 116, 61])) (K3 : 28 + bs.length + (Road.decN m).length ≤ i → i < 35 + bs.length + (Road.decN m).length → (σ (Road.lm n0 10 l3) ∧ Road.Str Z h0 l3 m3 [44, 32, 117, 115, 101, 114, 61])) :
    Road.Con l Z consts_1 n0 false bAt0 [] σ #[(.ref t), (.int (Nat.toInt32 i)), (.ref s), (.int (Nat.toInt32 m)), (.int (Nat.toInt32 (Road.decN m).length)), (.ref u)] h0 (fun v h2 s2 => v = some (.int 1) ∧ h0 = h2) := by
  refine Road.Con.of bAt0_pn hEW #[.val (.ref t), .val (.int (Nat.toInt32 i)), .val (.ref s), .val (.int (Nat.toInt32 m)), .val (.int (Nat.toInt32 (Road.decN m).length)), .val (.ref u)] (fun m => Road.ent (Road.laid1 rfl (Road.laid1 rfl (Road.laid1 rfl (Road.laid1 rfl (Road.laid1 rfl (Road.laid1 rfl Road.laid0)))))) (k := 0) rfl rfl) ?_
  intro D hD
  have hsm := Tt.2.2.2.1.small
  rw [List.length_map] at hsm
  refine Road.iloadN 0 bAt0_d0 rfl ?_
  refine Road.aloadN 1 bAt0_d1 rfl ?_
  refine Road.callV (B' := bLen) (a := t) 2 (argsL := []) (rest := [(.int (Nat.toInt32 i))]) "java/lang/String" 1 bAt0_d2 (wI hw 278 rfl) (wI hw 90 rfl) (fun vm hz => Road.notFace_sib (args := #[]) (mv (s := D.s.setVm vm) hz (wI hw 57 rfl)) rfl) (wI hw 92 rfl) (wI hw 91 rfl) (wI hw 5 rfl) (wI hw 93 rfl) (by decide) Tt.1 (cLen l Z a0 hw n0 hEW t td ([67, 111, 110, 115, 111, 108, 101, 83, 101, 116, 116, 105, 110, 103, 115, 91, 98, 105, 110, 100, 61] ++ bs ++ [44, 32, 112, 111, 114, 116, 61] ++ Road.decN m ++ [44, 32, 117, 115, 101, 114, 61] ++ us ++ [93]) h0 σ Tt cp Hc hcp) (lenOf bLen_pd rfl) rfl rfl rfl (by decide) (by decide) (ce' := 0) (sl' := 0) rfl rfl (by decide) (by decide) ?_
  rintro _ h_1 σ_2 m_3 ⟨rfl, rfl⟩
  refine Road.Go.weaken (σ' := σ) m_3 (Nat.le_refl _) (Nat.le_refl _) ?_
  refine Road.icmp_ge 5 26 bAt0_d5 rfl (fun hc5 => ?_) (fun hc5 => ?_)
  · skip
    rw [Road.lt32 (by omega) hsm] at hc5
    refine Road.iconst 26 (1 : Int32) bAt0_d26 rfl ?_
    refine Road.goto 27 31 bAt0_d27 rfl ?_
    exact Road.iret 31 1 bAt0_d31 (t := .boolean) rfl (by simp) rfl (by decide) (by decide) (fun σ' m => ⟨rfl, rfl⟩)
  · skip
    rw [Road.lt32 (by omega) hsm] at hc5
    obtain ⟨c, hc⟩ : ∃ c, ([67, 111, 110, 115, 111, 108, 101, 83, 101, 116, 116, 105, 110, 103, 115, 91, 98, 105, 110, 100, 61] ++ bs ++ [44, 32, 112, 111, 114, 116, 61] ++ Road.decN m ++ [44, 32, 117, 115, 101, 114, 61] ++ us ++ [93])[i]? = some c := ⟨_, List.getElem?_eq_getElem hc5⟩
    obtain ⟨hi2, hv2⟩ := List.getElem?_eq_some_iff.mp hc
    refine Road.aloadN 8 bAt0_d8 rfl ?_
    refine Road.iloadN 9 bAt0_d9 rfl ?_
    refine Road.callV (B' := bChA) (a := t) 10 (argsL := [(.int (Nat.toInt32 i))]) (rest := []) "java/lang/String" 0 bAt0_d10 (wI hw 285 rfl) (wI hw 286 rfl) (fun vm hz => Road.notFace_sib (args := #[]) (mv (s := D.s.setVm vm) hz (wI hw 57 rfl)) rfl) (wI hw 288 rfl) (wI hw 287 rfl) (wI hw 5 rfl) (wI hw 289 rfl) (by decide) Tt.1 (cChA l Z a0 hw n0 hEW t td ([67, 111, 110, 115, 111, 108, 101, 83, 101, 116, 116, 105, 110, 103, 115, 91, 98, 105, 110, 100, 61] ++ bs ++ [44, 32, 112, 111, 114, 116, 61] ++ Road.decN m ++ [44, 32, 117, 115, 101, 114, 61] ++ us ++ [93]) (Nat.toInt32 i) i h0 σ Tt (Road.n32 (by omega)) hi2 cp Hc hcp fm hfm Hf) (lenOf bChA_pd rfl) rfl rfl rfl (by decide) (by decide) (ce' := 0) (sl' := 0) rfl rfl (by decide) (by decide) ?_
    rintro _ h_5 σ_6 m_7 ⟨rfl, rfl⟩
    refine Road.Go.weaken (σ' := σ) m_7 (Nat.le_refl _) (Nat.le_refl _) ?_
    refine Road.nameI ?_
    intro z hz
    rw [hv2] at hz
    rw [hz]
    refine Road.iloadN 13 bAt0_d13 rfl ?_
    refine Road.aloadN 14 bAt0_d14 rfl ?_
    refine Road.iloadN 15 bAt0_d15 rfl ?_
    refine Road.iload 16 bAt0_d16 rfl ?_
    refine Road.aload 18 bAt0_d18 rfl ?_
    refine Road.callS (B' := bExp) 20 (argsL := [(.int (Nat.toInt32 i)), (.ref s), (.int (Nat.toInt32 m)), (.int (Nat.toInt32 (Road.decN m).length)), (.ref u)]) (rest := [(.int c)]) 1 bAt0_d20 (wI hw 300 rfl) (wI hw 301 rfl) (wI hw 276 rfl) (wI hw 302 rfl) (by decide) (cExp l Z a0 hw n0 hEW i c s sb u ub bs us m l1 m1 l2 m2 l3 m3 h0 σ T U hbs hus hm hc cp Hc hcp fm hfm Hf K1 K2 K3) (lenOf bExp_pd rfl) rfl rfl rfl (by decide) (by decide) (ce' := 0) (sl' := 0) rfl rfl (by decide) (by decide) ?_
    rintro _ h_9 σ_10 m_11 ⟨rfl, rfl⟩
    refine Road.Go.weaken (σ' := σ) m_11 (Nat.le_refl _) (Nat.le_refl _) ?_
    refine Road.icmp_ne 23 30 bAt0_d23 rfl (fun q => absurd q (by simp)) (fun hc23 => ?_)
    refine Road.iconst 26 (1 : Int32) bAt0_d26 rfl ?_
    refine Road.goto 27 31 bAt0_d27 rfl ?_
    exact Road.iret 31 1 bAt0_d31 (t := .boolean) rfl (by simp) rfl (by decide) (by decide) (fun σ' m => ⟨rfl, rfl⟩)
def bAtN1 : Road.Bdy := (⟨"com/example/orderly_tasks/orderlytasks/ConsoleSettingsToStringPinLaw", "at", "(Ljava/lang/String;ILjava/lang/String;IILjava/lang/String;)Z"⟩, method_6_code, 6, (some .boolean), { frames := 5, cells := 2, slots := 88, locals := 71 })
theorem bAtN1_pd : parseMethodDescriptor "(Ljava/lang/String;ILjava/lang/String;IILjava/lang/String;)Z" = some ⟨[(.object "java/lang/String"), .int, (.object "java/lang/String"), .int, .int, (.object "java/lang/String")], (some .boolean)⟩ := by decide +kernel
theorem bAtN1_pn : plainFor bAtN1.y = true := plainFor_of_name (show plainName "com/example/orderly_tasks/orderlytasks/ConsoleSettingsToStringPinLaw" = true from by first | (simp [plainName, overriddenIn]; done) | decide +kernel)
theorem cAtN1 (l : Launch) (Z : State) (a0 : Array Value) (hw : ∀ d ∈ tables_1, d.before a0 Z = true) (n0 : Nat) (hEW : EW Z a0 consts_1) (t td : Addr) (i : Nat) (s sb u ub : Addr) (bs us : List Int32) (m : Nat) (h0 : Heap) (σ : Addr → Prop) (Tt : Road.Str Z h0 t td ([67, 111, 110, 115, 111, 108, 101, 83, 101, 116, 116, 105, 110, 103, 115, 91, 98, 105, 110, 100, 61] ++ bs ++ [44, 32, 112, 111, 114, 116, 61] ++ Road.decN m ++ [44, 32, 117, 115, 101, 114, 61] ++ us ++ [93])) (T : Road.Str Z h0 s sb bs) (U : Road.Str Z h0 u ub us) (hbs : bs.length ≤ 2) (hus : us.length ≤ 2) (hm : m < 65536) (hi1 : i < 1000) (cp : Int32) (Hc : Sta Z Z.heap Road.SN "COMPACT_STRINGS" "Z" (.int cp)) (hcp : ¬ cp = 0) (fm : Value) (hfm : fm.isRef = true) (Hf : Sta Z Z.heap "jdk/internal/util/Preconditions" "SIOOBE_FORMATTER" "Ljava/util/function/BiFunction;" fm) (hreg : i < 21) :
    Road.Con l Z consts_1 n0 false bAtN1 [] σ #[(.ref t), (.int (Nat.toInt32 i)), (.ref s), (.int (Nat.toInt32 m)), (.int (Nat.toInt32 (Road.decN m).length)), (.ref u)] h0 (fun v h2 s2 => v = some (.int 1) ∧ Keep h0 h2 [] ∧ ∃ l0 m0, s2 (Road.lm n0 8 l0) ∧ Road.Str Z h2 l0 m0 [67, 111, 110, 115, 111, 108, 101, 83, 101, 116, 116, 105, 110, 103, 115, 91, 98, 105, 110, 100, 61]) := by
  refine Road.Con.of bAtN1_pn hEW #[.val (.ref t), .val (.int (Nat.toInt32 i)), .val (.ref s), .val (.int (Nat.toInt32 m)), .val (.int (Nat.toInt32 (Road.decN m).length)), .val (.ref u)] (fun m => Road.ent (Road.laid1 rfl (Road.laid1 rfl (Road.laid1 rfl (Road.laid1 rfl (Road.laid1 rfl (Road.laid1 rfl Road.laid0)))))) (k := 0) rfl rfl) ?_
  intro D hD
  have hsm := Tt.2.2.2.1.small
  rw [List.length_map] at hsm
  refine Road.iloadN 0 bAt0_d0 rfl ?_
  refine Road.aloadN 1 bAt0_d1 rfl ?_
  refine Road.callV (B' := bLen) (a := t) 2 (argsL := []) (rest := [(.int (Nat.toInt32 i))]) "java/lang/String" 1 bAt0_d2 (wI hw 278 rfl) (wI hw 90 rfl) (fun vm hz => Road.notFace_sib (args := #[]) (mv (s := D.s.setVm vm) hz (wI hw 57 rfl)) rfl) (wI hw 92 rfl) (wI hw 91 rfl) (wI hw 5 rfl) (wI hw 93 rfl) (by decide) Tt.1 (cLen l Z a0 hw n0 hEW t td ([67, 111, 110, 115, 111, 108, 101, 83, 101, 116, 116, 105, 110, 103, 115, 91, 98, 105, 110, 100, 61] ++ bs ++ [44, 32, 112, 111, 114, 116, 61] ++ Road.decN m ++ [44, 32, 117, 115, 101, 114, 61] ++ us ++ [93]) h0 σ Tt cp Hc hcp) (lenOf bLen_pd rfl) rfl rfl rfl (by decide) (by decide) (ce' := 0) (sl' := 0) rfl rfl (by decide) (by decide) ?_
  rintro _ h_1 σ_2 m_3 ⟨rfl, rfl⟩
  refine Road.Go.weaken (σ' := σ) m_3 (Nat.le_refl _) (Nat.le_refl _) ?_
  refine Road.icmp_ge 5 26 bAt0_d5 rfl (fun hc5 => ?_) (fun hc5 => ?_)
  · skip
    rw [Road.lt32 (by omega) hsm] at hc5
    simp only [List.length_append, List.length_cons, List.length_nil] at hc5
    exfalso; omega
  · skip
    rw [Road.lt32 (by omega) hsm] at hc5
    obtain ⟨c, hc⟩ : ∃ c, ([67, 111, 110, 115, 111, 108, 101, 83, 101, 116, 116, 105, 110, 103, 115, 91, 98, 105, 110, 100, 61] ++ bs ++ [44, 32, 112, 111, 114, 116, 61] ++ Road.decN m ++ [44, 32, 117, 115, 101, 114, 61] ++ us ++ [93])[i]? = some c := ⟨_, List.getElem?_eq_getElem hc5⟩
    obtain ⟨hi2, hv2⟩ := List.getElem?_eq_some_iff.mp hc
    refine Road.aloadN 8 bAt0_d8 rfl ?_
    refine Road.iloadN 9 bAt0_d9 rfl ?_
    refine Road.callV (B' := bChA) (a := t) 10 (argsL := [(.int (Nat.toInt32 i))]) (rest := []) "java/lang/String" 0 bAt0_d10 (wI hw 285 rfl) (wI hw 286 rfl) (fun vm hz => Road.notFace_sib (args := #[]) (mv (s := D.s.setVm vm) hz (wI hw 57 rfl)) rfl) (wI hw 288 rfl) (wI hw 287 rfl) (wI hw 5 rfl) (wI hw 289 rfl) (by decide) Tt.1 (cChA l Z a0 hw n0 hEW t td ([67, 111, 110, 115, 111, 108, 101, 83, 101, 116, 116, 105, 110, 103, 115, 91, 98, 105, 110, 100, 61] ++ bs ++ [44, 32, 112, 111, 114, 116, 61] ++ Road.decN m ++ [44, 32, 117, 115, 101, 114, 61] ++ us ++ [93]) (Nat.toInt32 i) i h0 σ Tt (Road.n32 (by omega)) hi2 cp Hc hcp fm hfm Hf) (lenOf bChA_pd rfl) rfl rfl rfl (by decide) (by decide) (ce' := 0) (sl' := 0) rfl rfl (by decide) (by decide) ?_
    rintro _ h_5 σ_6 m_7 ⟨rfl, rfl⟩
    refine Road.Go.weaken (σ' := σ) m_7 (Nat.le_refl _) (Nat.le_refl _) ?_
    refine Road.nameI ?_
    intro z hz
    rw [hv2] at hz
    rw [hz]
    refine Road.iloadN 13 bAt0_d13 rfl ?_
    refine Road.aloadN 14 bAt0_d14 rfl ?_
    refine Road.iloadN 15 bAt0_d15 rfl ?_
    refine Road.iload 16 bAt0_d16 rfl ?_
    refine Road.aload 18 bAt0_d18 rfl ?_
    refine Road.callS (B' := bExN1) 20 (argsL := [(.int (Nat.toInt32 i)), (.ref s), (.int (Nat.toInt32 m)), (.int (Nat.toInt32 (Road.decN m).length)), (.ref u)]) (rest := [(.int c)]) 1 bAt0_d20 (wI hw 300 rfl) (wI hw 301 rfl) (wI hw 276 rfl) (wI hw 302 rfl) (by decide) (cExN1 l Z a0 hw n0 hEW i c s sb u ub bs us m h0 σ T U hbs hus hm hc cp Hc hcp fm hfm Hf hreg) (lenOf bExN1_pd rfl) rfl rfl rfl (by decide) (by decide) (ce' := 2) (sl' := 88) rfl rfl (by decide) (by decide) ?_
    rintro _ h_9 σ_10 m_11 ⟨rfl, K_12, l0, m0, sl0, SL⟩
    refine Road.icmp_ne 23 30 bAt0_d23 rfl (fun q => absurd q (by simp)) (fun hc23 => ?_)
    refine Road.iconst 26 (1 : Int32) bAt0_d26 rfl ?_
    refine Road.goto 27 31 bAt0_d27 rfl ?_
    exact Road.iret 31 1 bAt0_d31 (t := .boolean) rfl (by simp) rfl (by decide) (by decide) (fun σ' m => ⟨rfl, K_12, l0, m0, m _ sl0, SL⟩)
def bAtN2 : Road.Bdy := (⟨"com/example/orderly_tasks/orderlytasks/ConsoleSettingsToStringPinLaw", "at", "(Ljava/lang/String;ILjava/lang/String;IILjava/lang/String;)Z"⟩, method_6_code, 6, (some .boolean), { frames := 5, cells := 2, slots := 32, locals := 71 })
theorem bAtN2_pd : parseMethodDescriptor "(Ljava/lang/String;ILjava/lang/String;IILjava/lang/String;)Z" = some ⟨[(.object "java/lang/String"), .int, (.object "java/lang/String"), .int, .int, (.object "java/lang/String")], (some .boolean)⟩ := by decide +kernel
theorem bAtN2_pn : plainFor bAtN2.y = true := plainFor_of_name (show plainName "com/example/orderly_tasks/orderlytasks/ConsoleSettingsToStringPinLaw" = true from by first | (simp [plainName, overriddenIn]; done) | decide +kernel)
theorem cAtN2 (l : Launch) (Z : State) (a0 : Array Value) (hw : ∀ d ∈ tables_1, d.before a0 Z = true) (n0 : Nat) (hEW : EW Z a0 consts_1) (t td : Addr) (i : Nat) (s sb u ub : Addr) (bs us : List Int32) (m : Nat) (h0 : Heap) (σ : Addr → Prop) (Tt : Road.Str Z h0 t td ([67, 111, 110, 115, 111, 108, 101, 83, 101, 116, 116, 105, 110, 103, 115, 91, 98, 105, 110, 100, 61] ++ bs ++ [44, 32, 112, 111, 114, 116, 61] ++ Road.decN m ++ [44, 32, 117, 115, 101, 114, 61] ++ us ++ [93])) (T : Road.Str Z h0 s sb bs) (U : Road.Str Z h0 u ub us) (hbs : bs.length ≤ 2) (hus : us.length ≤ 2) (hm : m < 65536) (hi1 : i < 1000) (cp : Int32) (Hc : Sta Z Z.heap Road.SN "COMPACT_STRINGS" "Z" (.int cp)) (hcp : ¬ cp = 0) (fm : Value) (hfm : fm.isRef = true) (Hf : Sta Z Z.heap "jdk/internal/util/Preconditions" "SIOOBE_FORMATTER" "Ljava/util/function/BiFunction;" fm) (hreg : 21 + bs.length ≤ i ∧ i < 28 + bs.length) :
    Road.Con l Z consts_1 n0 false bAtN2 [] σ #[(.ref t), (.int (Nat.toInt32 i)), (.ref s), (.int (Nat.toInt32 m)), (.int (Nat.toInt32 (Road.decN m).length)), (.ref u)] h0 (fun v h2 s2 => v = some (.int 1) ∧ Keep h0 h2 [] ∧ ∃ l0 m0, s2 (Road.lm n0 9 l0) ∧ Road.Str Z h2 l0 m0 [44, 32, 112, 111, 114, 116, 61]) := by
  refine Road.Con.of bAtN2_pn hEW #[.val (.ref t), .val (.int (Nat.toInt32 i)), .val (.ref s), .val (.int (Nat.toInt32 m)), .val (.int (Nat.toInt32 (Road.decN m).length)), .val (.ref u)] (fun m => Road.ent (Road.laid1 rfl (Road.laid1 rfl (Road.laid1 rfl (Road.laid1 rfl (Road.laid1 rfl (Road.laid1 rfl Road.laid0)))))) (k := 0) rfl rfl) ?_
  intro D hD
  have hsm := Tt.2.2.2.1.small
  rw [List.length_map] at hsm
  refine Road.iloadN 0 bAt0_d0 rfl ?_
  refine Road.aloadN 1 bAt0_d1 rfl ?_
  refine Road.callV (B' := bLen) (a := t) 2 (argsL := []) (rest := [(.int (Nat.toInt32 i))]) "java/lang/String" 1 bAt0_d2 (wI hw 278 rfl) (wI hw 90 rfl) (fun vm hz => Road.notFace_sib (args := #[]) (mv (s := D.s.setVm vm) hz (wI hw 57 rfl)) rfl) (wI hw 92 rfl) (wI hw 91 rfl) (wI hw 5 rfl) (wI hw 93 rfl) (by decide) Tt.1 (cLen l Z a0 hw n0 hEW t td ([67, 111, 110, 115, 111, 108, 101, 83, 101, 116, 116, 105, 110, 103, 115, 91, 98, 105, 110, 100, 61] ++ bs ++ [44, 32, 112, 111, 114, 116, 61] ++ Road.decN m ++ [44, 32, 117, 115, 101, 114, 61] ++ us ++ [93]) h0 σ Tt cp Hc hcp) (lenOf bLen_pd rfl) rfl rfl rfl (by decide) (by decide) (ce' := 0) (sl' := 0) rfl rfl (by decide) (by decide) ?_
  rintro _ h_1 σ_2 m_3 ⟨rfl, rfl⟩
  refine Road.Go.weaken (σ' := σ) m_3 (Nat.le_refl _) (Nat.le_refl _) ?_
  refine Road.icmp_ge 5 26 bAt0_d5 rfl (fun hc5 => ?_) (fun hc5 => ?_)
  · skip
    rw [Road.lt32 (by omega) hsm] at hc5
    simp only [List.length_append, List.length_cons, List.length_nil] at hc5
    exfalso; omega
  · skip
    rw [Road.lt32 (by omega) hsm] at hc5
    obtain ⟨c, hc⟩ : ∃ c, ([67, 111, 110, 115, 111, 108, 101, 83, 101, 116, 116, 105, 110, 103, 115, 91, 98, 105, 110, 100, 61] ++ bs ++ [44, 32, 112, 111, 114, 116, 61] ++ Road.decN m ++ [44, 32, 117, 115, 101, 114, 61] ++ us ++ [93])[i]? = some c := ⟨_, List.getElem?_eq_getElem hc5⟩
    obtain ⟨hi2, hv2⟩ := List.getElem?_eq_some_iff.mp hc
    refine Road.aloadN 8 bAt0_d8 rfl ?_
    refine Road.iloadN 9 bAt0_d9 rfl ?_
    refine Road.callV (B' := bChA) (a := t) 10 (argsL := [(.int (Nat.toInt32 i))]) (rest := []) "java/lang/String" 0 bAt0_d10 (wI hw 285 rfl) (wI hw 286 rfl) (fun vm hz => Road.notFace_sib (args := #[]) (mv (s := D.s.setVm vm) hz (wI hw 57 rfl)) rfl) (wI hw 288 rfl) (wI hw 287 rfl) (wI hw 5 rfl) (wI hw 289 rfl) (by decide) Tt.1 (cChA l Z a0 hw n0 hEW t td ([67, 111, 110, 115, 111, 108, 101, 83, 101, 116, 116, 105, 110, 103, 115, 91, 98, 105, 110, 100, 61] ++ bs ++ [44, 32, 112, 111, 114, 116, 61] ++ Road.decN m ++ [44, 32, 117, 115, 101, 114, 61] ++ us ++ [93]) (Nat.toInt32 i) i h0 σ Tt (Road.n32 (by omega)) hi2 cp Hc hcp fm hfm Hf) (lenOf bChA_pd rfl) rfl rfl rfl (by decide) (by decide) (ce' := 0) (sl' := 0) rfl rfl (by decide) (by decide) ?_
    rintro _ h_5 σ_6 m_7 ⟨rfl, rfl⟩
    refine Road.Go.weaken (σ' := σ) m_7 (Nat.le_refl _) (Nat.le_refl _) ?_
    refine Road.nameI ?_
    intro z hz
    rw [hv2] at hz
    rw [hz]
    refine Road.iloadN 13 bAt0_d13 rfl ?_
    refine Road.aloadN 14 bAt0_d14 rfl ?_
    refine Road.iloadN 15 bAt0_d15 rfl ?_
    refine Road.iload 16 bAt0_d16 rfl ?_
    refine Road.aload 18 bAt0_d18 rfl ?_
    refine Road.callS (B' := bExN2) 20 (argsL := [(.int (Nat.toInt32 i)), (.ref s), (.int (Nat.toInt32 m)), (.int (Nat.toInt32 (Road.decN m).length)), (.ref u)]) (rest := [(.int c)]) 1 bAt0_d20 (wI hw 300 rfl) (wI hw 301 rfl) (wI hw 276 rfl) (wI hw 302 rfl) (by decide) (cExN2 l Z a0 hw n0 hEW i c s sb u ub bs us m h0 σ T U hbs hus hm hc cp Hc hcp fm hfm Hf hreg) (lenOf bExN2_pd rfl) rfl rfl rfl (by decide) (by decide) (ce' := 2) (sl' := 32) rfl rfl (by decide) (by decide) ?_
    rintro _ h_9 σ_10 m_11 ⟨rfl, K_12, l0, m0, sl0, SL⟩
    refine Road.icmp_ne 23 30 bAt0_d23 rfl (fun q => absurd q (by simp)) (fun hc23 => ?_)
    refine Road.iconst 26 (1 : Int32) bAt0_d26 rfl ?_
    refine Road.goto 27 31 bAt0_d27 rfl ?_
    exact Road.iret 31 1 bAt0_d31 (t := .boolean) rfl (by simp) rfl (by decide) (by decide) (fun σ' m => ⟨rfl, K_12, l0, m0, m _ sl0, SL⟩)
def bAtN3 : Road.Bdy := (⟨"com/example/orderly_tasks/orderlytasks/ConsoleSettingsToStringPinLaw", "at", "(Ljava/lang/String;ILjava/lang/String;IILjava/lang/String;)Z"⟩, method_6_code, 6, (some .boolean), { frames := 5, cells := 2, slots := 32, locals := 71 })
theorem bAtN3_pd : parseMethodDescriptor "(Ljava/lang/String;ILjava/lang/String;IILjava/lang/String;)Z" = some ⟨[(.object "java/lang/String"), .int, (.object "java/lang/String"), .int, .int, (.object "java/lang/String")], (some .boolean)⟩ := by decide +kernel
theorem bAtN3_pn : plainFor bAtN3.y = true := plainFor_of_name (show plainName "com/example/orderly_tasks/orderlytasks/ConsoleSettingsToStringPinLaw" = true from by first | (simp [plainName, overriddenIn]; done) | decide +kernel)
theorem cAtN3 (l : Launch) (Z : State) (a0 : Array Value) (hw : ∀ d ∈ tables_1, d.before a0 Z = true) (n0 : Nat) (hEW : EW Z a0 consts_1) (t td : Addr) (i : Nat) (s sb u ub : Addr) (bs us : List Int32) (m : Nat) (h0 : Heap) (σ : Addr → Prop) (Tt : Road.Str Z h0 t td ([67, 111, 110, 115, 111, 108, 101, 83, 101, 116, 116, 105, 110, 103, 115, 91, 98, 105, 110, 100, 61] ++ bs ++ [44, 32, 112, 111, 114, 116, 61] ++ Road.decN m ++ [44, 32, 117, 115, 101, 114, 61] ++ us ++ [93])) (T : Road.Str Z h0 s sb bs) (U : Road.Str Z h0 u ub us) (hbs : bs.length ≤ 2) (hus : us.length ≤ 2) (hm : m < 65536) (hi1 : i < 1000) (cp : Int32) (Hc : Sta Z Z.heap Road.SN "COMPACT_STRINGS" "Z" (.int cp)) (hcp : ¬ cp = 0) (fm : Value) (hfm : fm.isRef = true) (Hf : Sta Z Z.heap "jdk/internal/util/Preconditions" "SIOOBE_FORMATTER" "Ljava/util/function/BiFunction;" fm) (hreg : 28 + bs.length + (Road.decN m).length ≤ i ∧ i < 35 + bs.length + (Road.decN m).length) :
    Road.Con l Z consts_1 n0 false bAtN3 [] σ #[(.ref t), (.int (Nat.toInt32 i)), (.ref s), (.int (Nat.toInt32 m)), (.int (Nat.toInt32 (Road.decN m).length)), (.ref u)] h0 (fun v h2 s2 => v = some (.int 1) ∧ Keep h0 h2 [] ∧ ∃ l0 m0, s2 (Road.lm n0 10 l0) ∧ Road.Str Z h2 l0 m0 [44, 32, 117, 115, 101, 114, 61]) := by
  refine Road.Con.of bAtN3_pn hEW #[.val (.ref t), .val (.int (Nat.toInt32 i)), .val (.ref s), .val (.int (Nat.toInt32 m)), .val (.int (Nat.toInt32 (Road.decN m).length)), .val (.ref u)] (fun m => Road.ent (Road.laid1 rfl (Road.laid1 rfl (Road.laid1 rfl (Road.laid1 rfl (Road.laid1 rfl (Road.laid1 rfl Road.laid0)))))) (k := 0) rfl rfl) ?_
  intro D hD
  have hsm := Tt.2.2.2.1.small
  rw [List.length_map] at hsm
  refine Road.iloadN 0 bAt0_d0 rfl ?_
  refine Road.aloadN 1 bAt0_d1 rfl ?_
  refine Road.callV (B' := bLen) (a := t) 2 (argsL := []) (rest := [(.int (Nat.toInt32 i))]) "java/lang/String" 1 bAt0_d2 (wI hw 278 rfl) (wI hw 90 rfl) (fun vm hz => Road.notFace_sib (args := #[]) (mv (s := D.s.setVm vm) hz (wI hw 57 rfl)) rfl) (wI hw 92 rfl) (wI hw 91 rfl) (wI hw 5 rfl) (wI hw 93 rfl) (by decide) Tt.1 (cLen l Z a0 hw n0 hEW t td ([67, 111, 110, 115, 111, 108, 101, 83, 101, 116, 116, 105, 110, 103, 115, 91, 98, 105, 110, 100, 61] ++ bs ++ [44, 32, 112, 111, 114, 116, 61] ++ Road.decN m ++ [44, 32, 117, 115, 101, 114, 61] ++ us ++ [93]) h0 σ Tt cp Hc hcp) (lenOf bLen_pd rfl) rfl rfl rfl (by decide) (by decide) (ce' := 0) (sl' := 0) rfl rfl (by decide) (by decide) ?_
  rintro _ h_1 σ_2 m_3 ⟨rfl, rfl⟩
  refine Road.Go.weaken (σ' := σ) m_3 (Nat.le_refl _) (Nat.le_refl _) ?_
  refine Road.icmp_ge 5 26 bAt0_d5 rfl (fun hc5 => ?_) (fun hc5 => ?_)
  · skip
    rw [Road.lt32 (by omega) hsm] at hc5
    simp only [List.length_append, List.length_cons, List.length_nil] at hc5
    exfalso; omega
  · skip
    rw [Road.lt32 (by omega) hsm] at hc5
    obtain ⟨c, hc⟩ : ∃ c, ([67, 111, 110, 115, 111, 108, 101, 83, 101, 116, 116, 105, 110, 103, 115, 91, 98, 105, 110, 100, 61] ++ bs ++ [44, 32, 112, 111, 114, 116, 61] ++ Road.decN m ++ [44, 32, 117, 115, 101, 114, 61] ++ us ++ [93])[i]? = some c := ⟨_, List.getElem?_eq_getElem hc5⟩
    obtain ⟨hi2, hv2⟩ := List.getElem?_eq_some_iff.mp hc
    refine Road.aloadN 8 bAt0_d8 rfl ?_
    refine Road.iloadN 9 bAt0_d9 rfl ?_
    refine Road.callV (B' := bChA) (a := t) 10 (argsL := [(.int (Nat.toInt32 i))]) (rest := []) "java/lang/String" 0 bAt0_d10 (wI hw 285 rfl) (wI hw 286 rfl) (fun vm hz => Road.notFace_sib (args := #[]) (mv (s := D.s.setVm vm) hz (wI hw 57 rfl)) rfl) (wI hw 288 rfl) (wI hw 287 rfl) (wI hw 5 rfl) (wI hw 289 rfl) (by decide) Tt.1 (cChA l Z a0 hw n0 hEW t td ([67, 111, 110, 115, 111, 108, 101, 83, 101, 116, 116, 105, 110, 103, 115, 91, 98, 105, 110, 100, 61] ++ bs ++ [44, 32, 112, 111, 114, 116, 61] ++ Road.decN m ++ [44, 32, 117, 115, 101, 114, 61] ++ us ++ [93]) (Nat.toInt32 i) i h0 σ Tt (Road.n32 (by omega)) hi2 cp Hc hcp fm hfm Hf) (lenOf bChA_pd rfl) rfl rfl rfl (by decide) (by decide) (ce' := 0) (sl' := 0) rfl rfl (by decide) (by decide) ?_
    rintro _ h_5 σ_6 m_7 ⟨rfl, rfl⟩
    refine Road.Go.weaken (σ' := σ) m_7 (Nat.le_refl _) (Nat.le_refl _) ?_
    refine Road.nameI ?_
    intro z hz
    rw [hv2] at hz
    rw [hz]
    refine Road.iloadN 13 bAt0_d13 rfl ?_
    refine Road.aloadN 14 bAt0_d14 rfl ?_
    refine Road.iloadN 15 bAt0_d15 rfl ?_
    refine Road.iload 16 bAt0_d16 rfl ?_
    refine Road.aload 18 bAt0_d18 rfl ?_
    refine Road.callS (B' := bExN3) 20 (argsL := [(.int (Nat.toInt32 i)), (.ref s), (.int (Nat.toInt32 m)), (.int (Nat.toInt32 (Road.decN m).length)), (.ref u)]) (rest := [(.int c)]) 1 bAt0_d20 (wI hw 300 rfl) (wI hw 301 rfl) (wI hw 276 rfl) (wI hw 302 rfl) (by decide) (cExN3 l Z a0 hw n0 hEW i c s sb u ub bs us m h0 σ T U hbs hus hm hc cp Hc hcp fm hfm Hf hreg) (lenOf bExN3_pd rfl) rfl rfl rfl (by decide) (by decide) (ce' := 2) (sl' := 32) rfl rfl (by decide) (by decide) ?_
    rintro _ h_9 σ_10 m_11 ⟨rfl, K_12, l0, m0, sl0, SL⟩
    refine Road.icmp_ne 23 30 bAt0_d23 rfl (fun q => absurd q (by simp)) (fun hc23 => ?_)
    refine Road.iconst 26 (1 : Int32) bAt0_d26 rfl ?_
    refine Road.goto 27 31 bAt0_d27 rfl ?_
    exact Road.iret 31 1 bAt0_d31 (t := .boolean) rfl (by simp) rfl (by decide) (by decide) (fun σ' m => ⟨rfl, K_12, l0, m0, m _ sl0, SL⟩)
def bA5 : Road.Bdy := (⟨"com/example/orderly_tasks/orderlytasks/ConsoleSettingsToStringPinLaw", "at5", "(Ljava/lang/String;ILjava/lang/String;IILjava/lang/String;)Z"⟩, method_7_code, 6, (some .boolean), { frames := 6, cells := 0, slots := 0, locals := 88 })
theorem bA5_d0 : decode bA5.bs 0 = .ok (.aload_n 0, 1) := by decide +kernel
theorem bA5_d1 : decode bA5.bs 1 = .ok (.iload_n 1, 1) := by decide +kernel
theorem bA5_d2 : decode bA5.bs 2 = .ok (.aload_n 2, 1) := by decide +kernel
theorem bA5_d3 : decode bA5.bs 3 = .ok (.iload_n 3, 1) := by decide +kernel
theorem bA5_d4 : decode bA5.bs 4 = .ok (.iload 4, 2) := by decide +kernel
theorem bA5_d6 : decode bA5.bs 6 = .ok (.aload 5, 2) := by decide +kernel
theorem bA5_d8 : decode bA5.bs 8 = .ok (.invokestatic 60, 3) := by decide +kernel
theorem bA5_d11 : decode bA5.bs 11 = .ok (.ifCond .eq 71, 3) := by decide +kernel
theorem bA5_d14 : decode bA5.bs 14 = .ok (.aload_n 0, 1) := by decide +kernel
theorem bA5_d15 : decode bA5.bs 15 = .ok (.iload_n 1, 1) := by decide +kernel
theorem bA5_d16 : decode bA5.bs 16 = .ok (.iconst 1, 1) := by decide +kernel
theorem bA5_d17 : decode bA5.bs 17 = .ok (.iadd, 1) := by decide +kernel
theorem bA5_d18 : decode bA5.bs 18 = .ok (.aload_n 2, 1) := by decide +kernel
theorem bA5_d19 : decode bA5.bs 19 = .ok (.iload_n 3, 1) := by decide +kernel
theorem bA5_d20 : decode bA5.bs 20 = .ok (.iload 4, 2) := by decide +kernel
theorem bA5_d22 : decode bA5.bs 22 = .ok (.aload 5, 2) := by decide +kernel
theorem bA5_d24 : decode bA5.bs 24 = .ok (.invokestatic 60, 3) := by decide +kernel
theorem bA5_d27 : decode bA5.bs 27 = .ok (.ifCond .eq 55, 3) := by decide +kernel
theorem bA5_d30 : decode bA5.bs 30 = .ok (.aload_n 0, 1) := by decide +kernel
theorem bA5_d31 : decode bA5.bs 31 = .ok (.iload_n 1, 1) := by decide +kernel
theorem bA5_d32 : decode bA5.bs 32 = .ok (.iconst 2, 1) := by decide +kernel
theorem bA5_d33 : decode bA5.bs 33 = .ok (.iadd, 1) := by decide +kernel
theorem bA5_d34 : decode bA5.bs 34 = .ok (.aload_n 2, 1) := by decide +kernel
theorem bA5_d35 : decode bA5.bs 35 = .ok (.iload_n 3, 1) := by decide +kernel
theorem bA5_d36 : decode bA5.bs 36 = .ok (.iload 4, 2) := by decide +kernel
theorem bA5_d38 : decode bA5.bs 38 = .ok (.aload 5, 2) := by decide +kernel
theorem bA5_d40 : decode bA5.bs 40 = .ok (.invokestatic 60, 3) := by decide +kernel
theorem bA5_d43 : decode bA5.bs 43 = .ok (.ifCond .eq 39, 3) := by decide +kernel
theorem bA5_d46 : decode bA5.bs 46 = .ok (.aload_n 0, 1) := by decide +kernel
theorem bA5_d47 : decode bA5.bs 47 = .ok (.iload_n 1, 1) := by decide +kernel
theorem bA5_d48 : decode bA5.bs 48 = .ok (.iconst 3, 1) := by decide +kernel
theorem bA5_d49 : decode bA5.bs 49 = .ok (.iadd, 1) := by decide +kernel
theorem bA5_d50 : decode bA5.bs 50 = .ok (.aload_n 2, 1) := by decide +kernel
theorem bA5_d51 : decode bA5.bs 51 = .ok (.iload_n 3, 1) := by decide +kernel
theorem bA5_d52 : decode bA5.bs 52 = .ok (.iload 4, 2) := by decide +kernel
theorem bA5_d54 : decode bA5.bs 54 = .ok (.aload 5, 2) := by decide +kernel
theorem bA5_d56 : decode bA5.bs 56 = .ok (.invokestatic 60, 3) := by decide +kernel
theorem bA5_d59 : decode bA5.bs 59 = .ok (.ifCond .eq 23, 3) := by decide +kernel
theorem bA5_d62 : decode bA5.bs 62 = .ok (.aload_n 0, 1) := by decide +kernel
theorem bA5_d63 : decode bA5.bs 63 = .ok (.iload_n 1, 1) := by decide +kernel
theorem bA5_d64 : decode bA5.bs 64 = .ok (.iconst 4, 1) := by decide +kernel
theorem bA5_d65 : decode bA5.bs 65 = .ok (.iadd, 1) := by decide +kernel
theorem bA5_d66 : decode bA5.bs 66 = .ok (.aload_n 2, 1) := by decide +kernel
theorem bA5_d67 : decode bA5.bs 67 = .ok (.iload_n 3, 1) := by decide +kernel
theorem bA5_d68 : decode bA5.bs 68 = .ok (.iload 4, 2) := by decide +kernel
theorem bA5_d70 : decode bA5.bs 70 = .ok (.aload 5, 2) := by decide +kernel
theorem bA5_d72 : decode bA5.bs 72 = .ok (.invokestatic 60, 3) := by decide +kernel
theorem bA5_d75 : decode bA5.bs 75 = .ok (.ifCond .eq 7, 3) := by decide +kernel
theorem bA5_d78 : decode bA5.bs 78 = .ok (.iconst 1, 1) := by decide +kernel
theorem bA5_d79 : decode bA5.bs 79 = .ok (.goto 4, 3) := by decide +kernel
theorem bA5_d82 : decode bA5.bs 82 = .ok (.iconst 0, 1) := by decide +kernel
theorem bA5_d83 : decode bA5.bs 83 = .ok (.ireturn, 1) := by decide +kernel
theorem bA5_pd : parseMethodDescriptor "(Ljava/lang/String;ILjava/lang/String;IILjava/lang/String;)Z" = some ⟨[(.object "java/lang/String"), .int, (.object "java/lang/String"), .int, .int, (.object "java/lang/String")], (some .boolean)⟩ := by decide +kernel
theorem bA5_pn : plainFor bA5.y = true := plainFor_of_name (show plainName "com/example/orderly_tasks/orderlytasks/ConsoleSettingsToStringPinLaw" = true from by first | (simp [plainName, overriddenIn]; done) | decide +kernel)
theorem cA5 (l : Launch) (Z : State) (a0 : Array Value) (hw : ∀ d ∈ tables_1, d.before a0 Z = true) (n0 : Nat) (hEW : EW Z a0 consts_1) (t td : Addr) (i : Nat) (s sb u ub : Addr) (bs us : List Int32) (m : Nat) (l1 m1 l2 m2 l3 m3 : Addr) (h0 : Heap) (σ : Addr → Prop) (Tt : Road.Str Z h0 t td ([67, 111, 110, 115, 111, 108, 101, 83, 101, 116, 116, 105, 110, 103, 115, 91, 98, 105, 110, 100, 61] ++ bs ++ [44, 32, 112, 111, 114, 116, 61] ++ Road.decN m ++ [44, 32, 117, 115, 101, 114, 61] ++ us ++ [93])) (T : Road.Str Z h0 s sb bs) (U : Road.Str Z h0 u ub us) (hbs : bs.length ≤ 2) (hus : us.length ≤ 2) (hm : m < 65536) (hi1 : i < 900) (cp : Int32) (Hc : Sta Z Z.heap Road.SN "COMPACT_STRINGS" "Z" (.int cp)) (hcp : ¬ cp = 0) (fm : Value) (hfm : fm.isRef = true) (Hf : Sta Z Z.heap "jdk/internal/util/Preconditions" "SIOOBE_FORMATTER" "Ljava/util/function/BiFunction;" fm) (K1 : i < 21 → (σ (Road.lm n0 8 l1) ∧ Road.Str Z h0 l1 m1 [67, 111, 110, 115, 111, 108, 101, 83, 101, 116, 116, 105, 110, 103, 115, 91, 98, 105, 110, 100, 61])) (K2 : 21 + bs.length ≤ i + 4 → i < 28 + bs.length → (σ (Road.lm n0 9 l2) ∧ Road.Str Z h0 l2 m2 [44, 32, 112, 111, 114, 116, 61])) (K3 : 28 + bs.length + (Road.decN m).length ≤ i + 4 → i < 35 + bs.length + (Road.decN m).length → (σ (Road.lm n0 10 l3) ∧ Road.Str Z h0 l3 m3 [44, 32, 117, 115, 101, 114, 61])) :
    Road.Con l Z consts_1 n0 false bA5 [] σ #[(.ref t), (.int (Nat.toInt32 i)), (.ref s), (.int (Nat.toInt32 m)), (.int (Nat.toInt32 (Road.decN m).length)), (.ref u)] h0 (fun v h2 s2 => v = some (.int 1) ∧ h0 = h2) := by
  refine Road.Con.of bA5_pn hEW #[.val (.ref t), .val (.int (Nat.toInt32 i)), .val (.ref s), .val (.int (Nat.toInt32 m)), .val (.int (Nat.toInt32 (Road.decN m).length)), .val (.ref u)] (fun m => Road.ent (Road.laid1 rfl (Road.laid1 rfl (Road.laid1 rfl (Road.laid1 rfl (Road.laid1 rfl (Road.laid1 rfl Road.laid0)))))) (k := 0) rfl rfl) ?_
  intro D hD
  refine Road.aloadN 0 bA5_d0 rfl ?_
  refine Road.iloadN 1 bA5_d1 rfl ?_
  refine Road.aloadN 2 bA5_d2 rfl ?_
  refine Road.iloadN 3 bA5_d3 rfl ?_
  refine Road.iload 4 bA5_d4 rfl ?_
  refine Road.aload 6 bA5_d6 rfl ?_
  refine Road.callS (B' := bAt0) 8 (argsL := [(.ref t), (.int (Nat.toInt32 i)), (.ref s), (.int (Nat.toInt32 m)), (.int (Nat.toInt32 (Road.decN m).length)), (.ref u)]) (rest := []) 0 bA5_d8 (wI hw 282 rfl) (wI hw 283 rfl) (wI hw 276 rfl) (wI hw 284 rfl) (by decide) (cAt0 l Z a0 hw n0 hEW t td i s sb u ub bs us m l1 m1 l2 m2 l3 m3 h0 σ Tt T U hbs hus hm (by omega) cp Hc hcp fm hfm Hf (fun _ => K1 (by omega)) (fun _ _ => K2 (by omega) (by omega)) (fun _ _ => K3 (by omega) (by omega))) (lenOf bAt0_pd rfl) rfl rfl rfl (by decide) (by decide) (ce' := 0) (sl' := 0) rfl rfl (by decide) (by decide) ?_
  rintro _ h_1 σ_2 m_3 ⟨rfl, rfl⟩
  refine Road.Go.weaken (σ' := σ) m_3 (Nat.le_refl _) (Nat.le_refl _) ?_
  refine Road.if_eq 11 82 bA5_d11 rfl (fun q => absurd q (by decide)) (fun hc11 => ?_)
  refine Road.aloadN 14 bA5_d14 rfl ?_
  refine Road.iloadN 15 bA5_d15 rfl ?_
  refine Road.iconst 16 (1 : Int32) bA5_d16 rfl ?_
  refine Road.iadd 17 bA5_d17 ?_
  refine Road.nameI ?_
  intro z_5 hz_5
  obtain rfl : z_5 = (Nat.toInt32 (i + 1)) := by rw [hz_5]; rw [show (1 : Int32) = Nat.toInt32 1 from rfl, Road.add32n]
  refine Road.aloadN 18 bA5_d18 rfl ?_
  refine Road.iloadN 19 bA5_d19 rfl ?_
  refine Road.iload 20 bA5_d20 rfl ?_
  refine Road.aload 22 bA5_d22 rfl ?_
  refine Road.callS (B' := bAt0) 24 (argsL := [(.ref t), (.int (Nat.toInt32 (i + 1))), (.ref s), (.int (Nat.toInt32 m)), (.int (Nat.toInt32 (Road.decN m).length)), (.ref u)]) (rest := []) 0 bA5_d24 (wI hw 282 rfl) (wI hw 283 rfl) (wI hw 276 rfl) (wI hw 284 rfl) (by decide) (cAt0 l Z a0 hw n0 hEW t td (i + 1) s sb u ub bs us m l1 m1 l2 m2 l3 m3 h0 σ Tt T U hbs hus hm (by omega) cp Hc hcp fm hfm Hf (fun _ => K1 (by omega)) (fun _ _ => K2 (by omega) (by omega)) (fun _ _ => K3 (by omega) (by omega))) (lenOf bAt0_pd rfl) rfl rfl rfl (by decide) (by decide) (ce' := 0) (sl' := 0) rfl rfl (by decide) (by decide) ?_
  rintro _ h_6 σ_7 m_8 ⟨rfl, rfl⟩
  refine Road.Go.weaken (σ' := σ) m_8 (Nat.le_refl _) (Nat.le_refl _) ?_
  refine Road.if_eq 27 82 bA5_d27 rfl (fun q => absurd q (by decide)) (fun hc27 => ?_)
  refine Road.aloadN 30 bA5_d30 rfl ?_
  refine Road.iloadN 31 bA5_d31 rfl ?_
  refine Road.iconst 32 (2 : Int32) bA5_d32 rfl ?_
  refine Road.iadd 33 bA5_d33 ?_
  refine Road.nameI ?_
  intro z_10 hz_10
  obtain rfl : z_10 = (Nat.toInt32 (i + 2)) := by rw [hz_10]; rw [show (2 : Int32) = Nat.toInt32 2 from rfl, Road.add32n]
  refine Road.aloadN 34 bA5_d34 rfl ?_
  refine Road.iloadN 35 bA5_d35 rfl ?_
  refine Road.iload 36 bA5_d36 rfl ?_
  refine Road.aload 38 bA5_d38 rfl ?_
  refine Road.callS (B' := bAt0) 40 (argsL := [(.ref t), (.int (Nat.toInt32 (i + 2))), (.ref s), (.int (Nat.toInt32 m)), (.int (Nat.toInt32 (Road.decN m).length)), (.ref u)]) (rest := []) 0 bA5_d40 (wI hw 282 rfl) (wI hw 283 rfl) (wI hw 276 rfl) (wI hw 284 rfl) (by decide) (cAt0 l Z a0 hw n0 hEW t td (i + 2) s sb u ub bs us m l1 m1 l2 m2 l3 m3 h0 σ Tt T U hbs hus hm (by omega) cp Hc hcp fm hfm Hf (fun _ => K1 (by omega)) (fun _ _ => K2 (by omega) (by omega)) (fun _ _ => K3 (by omega) (by omega))) (lenOf bAt0_pd rfl) rfl rfl rfl (by decide) (by decide) (ce' := 0) (sl' := 0) rfl rfl (by decide) (by decide) ?_
  rintro _ h_11 σ_12 m_13 ⟨rfl, rfl⟩
  refine Road.Go.weaken (σ' := σ) m_13 (Nat.le_refl _) (Nat.le_refl _) ?_
  refine Road.if_eq 43 82 bA5_d43 rfl (fun q => absurd q (by decide)) (fun hc43 => ?_)
  refine Road.aloadN 46 bA5_d46 rfl ?_
  refine Road.iloadN 47 bA5_d47 rfl ?_
  refine Road.iconst 48 (3 : Int32) bA5_d48 rfl ?_
  refine Road.iadd 49 bA5_d49 ?_
  refine Road.nameI ?_
  intro z_15 hz_15
  obtain rfl : z_15 = (Nat.toInt32 (i + 3)) := by rw [hz_15]; rw [show (3 : Int32) = Nat.toInt32 3 from rfl, Road.add32n]
  refine Road.aloadN 50 bA5_d50 rfl ?_
  refine Road.iloadN 51 bA5_d51 rfl ?_
  refine Road.iload 52 bA5_d52 rfl ?_
  refine Road.aload 54 bA5_d54 rfl ?_
  refine Road.callS (B' := bAt0) 56 (argsL := [(.ref t), (.int (Nat.toInt32 (i + 3))), (.ref s), (.int (Nat.toInt32 m)), (.int (Nat.toInt32 (Road.decN m).length)), (.ref u)]) (rest := []) 0 bA5_d56 (wI hw 282 rfl) (wI hw 283 rfl) (wI hw 276 rfl) (wI hw 284 rfl) (by decide) (cAt0 l Z a0 hw n0 hEW t td (i + 3) s sb u ub bs us m l1 m1 l2 m2 l3 m3 h0 σ Tt T U hbs hus hm (by omega) cp Hc hcp fm hfm Hf (fun _ => K1 (by omega)) (fun _ _ => K2 (by omega) (by omega)) (fun _ _ => K3 (by omega) (by omega))) (lenOf bAt0_pd rfl) rfl rfl rfl (by decide) (by decide) (ce' := 0) (sl' := 0) rfl rfl (by decide) (by decide) ?_
  rintro _ h_16 σ_17 m_18 ⟨rfl, rfl⟩
  refine Road.Go.weaken (σ' := σ) m_18 (Nat.le_refl _) (Nat.le_refl _) ?_
  refine Road.if_eq 59 82 bA5_d59 rfl (fun q => absurd q (by decide)) (fun hc59 => ?_)
  refine Road.aloadN 62 bA5_d62 rfl ?_
  refine Road.iloadN 63 bA5_d63 rfl ?_
  refine Road.iconst 64 (4 : Int32) bA5_d64 rfl ?_
  refine Road.iadd 65 bA5_d65 ?_
  refine Road.nameI ?_
  intro z_20 hz_20
  obtain rfl : z_20 = (Nat.toInt32 (i + 4)) := by rw [hz_20]; rw [show (4 : Int32) = Nat.toInt32 4 from rfl, Road.add32n]
  refine Road.aloadN 66 bA5_d66 rfl ?_
  refine Road.iloadN 67 bA5_d67 rfl ?_
  refine Road.iload 68 bA5_d68 rfl ?_
  refine Road.aload 70 bA5_d70 rfl ?_
  refine Road.callS (B' := bAt0) 72 (argsL := [(.ref t), (.int (Nat.toInt32 (i + 4))), (.ref s), (.int (Nat.toInt32 m)), (.int (Nat.toInt32 (Road.decN m).length)), (.ref u)]) (rest := []) 0 bA5_d72 (wI hw 282 rfl) (wI hw 283 rfl) (wI hw 276 rfl) (wI hw 284 rfl) (by decide) (cAt0 l Z a0 hw n0 hEW t td (i + 4) s sb u ub bs us m l1 m1 l2 m2 l3 m3 h0 σ Tt T U hbs hus hm (by omega) cp Hc hcp fm hfm Hf (fun _ => K1 (by omega)) (fun _ _ => K2 (by omega) (by omega)) (fun _ _ => K3 (by omega) (by omega))) (lenOf bAt0_pd rfl) rfl rfl rfl (by decide) (by decide) (ce' := 0) (sl' := 0) rfl rfl (by decide) (by decide) ?_
  rintro _ h_21 σ_22 m_23 ⟨rfl, rfl⟩
  refine Road.Go.weaken (σ' := σ) m_23 (Nat.le_refl _) (Nat.le_refl _) ?_
  refine Road.if_eq 75 82 bA5_d75 rfl (fun q => absurd q (by decide)) (fun hc75 => ?_)
  refine Road.iconst 78 (1 : Int32) bA5_d78 rfl ?_
  refine Road.goto 79 83 bA5_d79 rfl ?_
  exact Road.iret 83 1 bA5_d83 (t := .boolean) rfl (by simp) rfl (by decide) (by decide) (fun σ' m => ⟨rfl, rfl⟩)
def bA5N1 : Road.Bdy := (⟨"com/example/orderly_tasks/orderlytasks/ConsoleSettingsToStringPinLaw", "at5", "(Ljava/lang/String;ILjava/lang/String;IILjava/lang/String;)Z"⟩, method_7_code, 6, (some .boolean), { frames := 6, cells := 2, slots := 88, locals := 88 })
theorem bA5N1_pd : parseMethodDescriptor "(Ljava/lang/String;ILjava/lang/String;IILjava/lang/String;)Z" = some ⟨[(.object "java/lang/String"), .int, (.object "java/lang/String"), .int, .int, (.object "java/lang/String")], (some .boolean)⟩ := by decide +kernel
theorem bA5N1_pn : plainFor bA5N1.y = true := plainFor_of_name (show plainName "com/example/orderly_tasks/orderlytasks/ConsoleSettingsToStringPinLaw" = true from by first | (simp [plainName, overriddenIn]; done) | decide +kernel)
theorem cA5N1 (l : Launch) (Z : State) (a0 : Array Value) (hw : ∀ d ∈ tables_1, d.before a0 Z = true) (n0 : Nat) (hEW : EW Z a0 consts_1) (t td : Addr) (i : Nat) (s sb u ub : Addr) (bs us : List Int32) (m : Nat) (l2 m2 l3 m3 : Addr) (h0 : Heap) (σ : Addr → Prop) (Tt : Road.Str Z h0 t td ([67, 111, 110, 115, 111, 108, 101, 83, 101, 116, 116, 105, 110, 103, 115, 91, 98, 105, 110, 100, 61] ++ bs ++ [44, 32, 112, 111, 114, 116, 61] ++ Road.decN m ++ [44, 32, 117, 115, 101, 114, 61] ++ us ++ [93])) (T : Road.Str Z h0 s sb bs) (U : Road.Str Z h0 u ub us) (hbs : bs.length ≤ 2) (hus : us.length ≤ 2) (hm : m < 65536) (hi1 : i < 900) (cp : Int32) (Hc : Sta Z Z.heap Road.SN "COMPACT_STRINGS" "Z" (.int cp)) (hcp : ¬ cp = 0) (fm : Value) (hfm : fm.isRef = true) (Hf : Sta Z Z.heap "jdk/internal/util/Preconditions" "SIOOBE_FORMATTER" "Ljava/util/function/BiFunction;" fm) (K2 : 21 + bs.length ≤ i + 4 → i < 28 + bs.length → (σ (Road.lm n0 9 l2) ∧ Road.Str Z h0 l2 m2 [44, 32, 112, 111, 114, 116, 61])) (K3 : 28 + bs.length + (Road.decN m).length ≤ i + 4 → i < 35 + bs.length + (Road.decN m).length → (σ (Road.lm n0 10 l3) ∧ Road.Str Z h0 l3 m3 [44, 32, 117, 115, 101, 114, 61])) :
    Road.Con l Z consts_1 n0 false bA5N1 [] σ #[(.ref t), (.int (Nat.toInt32 i)), (.ref s), (.int (Nat.toInt32 m)), (.int (Nat.toInt32 (Road.decN m).length)), (.ref u)] h0 (fun v h2 s2 => v = some (.int 1) ∧ Keep h0 h2 [] ∧ ((∃ l0 m0, s2 (Road.lm n0 8 l0) ∧ Road.Str Z h2 l0 m0 [67, 111, 110, 115, 111, 108, 101, 83, 101, 116, 116, 105, 110, 103, 115, 91, 98, 105, 110, 100, 61]) ∨ ∀ j, j < 5 → ¬ (i + j < 21))) := by
  refine Road.Con.of bA5N1_pn hEW #[.val (.ref t), .val (.int (Nat.toInt32 i)), .val (.ref s), .val (.int (Nat.toInt32 m)), .val (.int (Nat.toInt32 (Road.decN m).length)), .val (.ref u)] (fun m => Road.ent (Road.laid1 rfl (Road.laid1 rfl (Road.laid1 rfl (Road.laid1 rfl (Road.laid1 rfl (Road.laid1 rfl Road.laid0)))))) (k := 0) rfl rfl) ?_
  intro D hD
  have J5 : ∀ (h : Heap) (τ : Addr → Prop) (l0 m0 : Addr), (∀ x, σ x → τ x) → Keep h0 h [] → τ (Road.lm n0 8 l0) → Road.Str Z h l0 m0 [67, 111, 110, 115, 111, 108, 101, 83, 101, 116, 116, 105, 110, 103, 115, 91, 98, 105, 110, 100, 61] → Road.Go l Z a0 consts_1 n0 false bA5N1 D (fun v h2 s2 => v = some (.int 1) ∧ Keep h0 h2 [] ∧ ((∃ l0 m0, s2 (Road.lm n0 8 l0) ∧ Road.Str Z h2 l0 m0 [67, 111, 110, 115, 111, 108, 101, 83, 101, 116, 116, 105, 110, 103, 115, 91, 98, 105, 110, 100, 61]) ∨ ∀ j, j < 5 → ¬ (i + j < 21))) h τ 2 88 78 #[.val (.ref t), .val (.int (Nat.toInt32 i)), .val (.ref s), .val (.int (Nat.toInt32 m)), .val (.int (Nat.toInt32 (Road.decN m).length)), .val (.ref u)] [] := by
    intro h τ l0 m0 mt KK sl0 SL
    refine Road.iconst 78 (1 : Int32) bA5_d78 rfl ?_
    refine Road.goto 79 83 bA5_d79 rfl ?_
    exact Road.iret 83 1 bA5_d83 (t := .boolean) rfl (by simp) rfl (by decide) (by decide) (fun σ' m => ⟨rfl, KK, Or.inl ⟨l0, m0, m _ sl0, SL⟩⟩)
  have J4 : ∀ (h : Heap) (τ : Addr → Prop) (l0 m0 : Addr), (∀ x, σ x → τ x) → Keep h0 h [] → τ (Road.lm n0 8 l0) → Road.Str Z h l0 m0 [67, 111, 110, 115, 111, 108, 101, 83, 101, 116, 116, 105, 110, 103, 115, 91, 98, 105, 110, 100, 61] → Road.Go l Z a0 consts_1 n0 false bA5N1 D (fun v h2 s2 => v = some (.int 1) ∧ Keep h0 h2 [] ∧ ((∃ l0 m0, s2 (Road.lm n0 8 l0) ∧ Road.Str Z h2 l0 m0 [67, 111, 110, 115, 111, 108, 101, 83, 101, 116, 116, 105, 110, 103, 115, 91, 98, 105, 110, 100, 61]) ∨ ∀ j, j < 5 → ¬ (i + j < 21))) h τ 2 88 62 #[.val (.ref t), .val (.int (Nat.toInt32 i)), .val (.ref s), .val (.int (Nat.toInt32 m)), .val (.int (Nat.toInt32 (Road.decN m).length)), .val (.ref u)] [] := by
    intro h τ l0 m0 mt KK sl0 SL
    refine Road.aloadN 62 bA5_d62 rfl ?_
    refine Road.iloadN 63 bA5_d63 rfl ?_
    refine Road.iconst 64 (4 : Int32) bA5_d64 rfl ?_
    refine Road.iadd 65 bA5_d65 ?_
    refine Road.nameI ?_
    intro z_1 hz_1
    obtain rfl : z_1 = (Nat.toInt32 (i + 4)) := by rw [hz_1]; rw [show (4 : Int32) = Nat.toInt32 4 from rfl, Road.add32n]
    refine Road.aloadN 66 bA5_d66 rfl ?_
    refine Road.iloadN 67 bA5_d67 rfl ?_
    refine Road.iload 68 bA5_d68 rfl ?_
    refine Road.aload 70 bA5_d70 rfl ?_
    refine Road.callS (B' := bAt0) 72 (argsL := [(.ref t), (.int (Nat.toInt32 (i + 4))), (.ref s), (.int (Nat.toInt32 m)), (.int (Nat.toInt32 (Road.decN m).length)), (.ref u)]) (rest := []) 0 bA5_d72 (wI hw 282 rfl) (wI hw 283 rfl) (wI hw 276 rfl) (wI hw 284 rfl) (by decide) (cAt0 l Z a0 hw n0 hEW t td (i + 4) s sb u ub bs us m l0 m0 l2 m2 l3 m3 h τ (Tt.keep KK nin0 nin0) (T.keep KK nin0 nin0) (U.keep KK nin0 nin0) hbs hus hm (by omega) cp Hc hcp fm hfm Hf (fun _ => ⟨sl0, SL⟩) (fun _ _ => ⟨mt _ (K2 (by omega) (by omega)).1, (K2 (by omega) (by omega)).2.keep KK nin0 nin0⟩) (fun _ _ => ⟨mt _ (K3 (by omega) (by omega)).1, (K3 (by omega) (by omega)).2.keep KK nin0 nin0⟩)) (lenOf bAt0_pd rfl) rfl rfl rfl (by decide) (by decide) (ce' := 2) (sl' := 88) rfl rfl (by decide) (by decide) ?_
    rintro _ h_2 σ_3 m_4 ⟨rfl, rfl⟩
    refine Road.Go.weaken (σ' := τ) m_4 (Nat.le_refl _) (Nat.le_refl _) ?_
    refine Road.if_eq 75 82 bA5_d75 rfl (fun q => absurd q (by decide)) (fun hc75 => ?_)
    exact J5 h τ l0 m0 mt KK sl0 SL
  have J3 : ∀ (h : Heap) (τ : Addr → Prop) (l0 m0 : Addr), (∀ x, σ x → τ x) → Keep h0 h [] → τ (Road.lm n0 8 l0) → Road.Str Z h l0 m0 [67, 111, 110, 115, 111, 108, 101, 83, 101, 116, 116, 105, 110, 103, 115, 91, 98, 105, 110, 100, 61] → Road.Go l Z a0 consts_1 n0 false bA5N1 D (fun v h2 s2 => v = some (.int 1) ∧ Keep h0 h2 [] ∧ ((∃ l0 m0, s2 (Road.lm n0 8 l0) ∧ Road.Str Z h2 l0 m0 [67, 111, 110, 115, 111, 108, 101, 83, 101, 116, 116, 105, 110, 103, 115, 91, 98, 105, 110, 100, 61]) ∨ ∀ j, j < 5 → ¬ (i + j < 21))) h τ 2 88 46 #[.val (.ref t), .val (.int (Nat.toInt32 i)), .val (.ref s), .val (.int (Nat.toInt32 m)), .val (.int (Nat.toInt32 (Road.decN m).length)), .val (.ref u)] [] := by
    intro h τ l0 m0 mt KK sl0 SL
    refine Road.aloadN 46 bA5_d46 rfl ?_
    refine Road.iloadN 47 bA5_d47 rfl ?_
    refine Road.iconst 48 (3 : Int32) bA5_d48 rfl ?_
    refine Road.iadd 49 bA5_d49 ?_
    refine Road.nameI ?_
    intro z_6 hz_6
    obtain rfl : z_6 = (Nat.toInt32 (i + 3)) := by rw [hz_6]; rw [show (3 : Int32) = Nat.toInt32 3 from rfl, Road.add32n]
    refine Road.aloadN 50 bA5_d50 rfl ?_
    refine Road.iloadN 51 bA5_d51 rfl ?_
    refine Road.iload 52 bA5_d52 rfl ?_
    refine Road.aload 54 bA5_d54 rfl ?_
    refine Road.callS (B' := bAt0) 56 (argsL := [(.ref t), (.int (Nat.toInt32 (i + 3))), (.ref s), (.int (Nat.toInt32 m)), (.int (Nat.toInt32 (Road.decN m).length)), (.ref u)]) (rest := []) 0 bA5_d56 (wI hw 282 rfl) (wI hw 283 rfl) (wI hw 276 rfl) (wI hw 284 rfl) (by decide) (cAt0 l Z a0 hw n0 hEW t td (i + 3) s sb u ub bs us m l0 m0 l2 m2 l3 m3 h τ (Tt.keep KK nin0 nin0) (T.keep KK nin0 nin0) (U.keep KK nin0 nin0) hbs hus hm (by omega) cp Hc hcp fm hfm Hf (fun _ => ⟨sl0, SL⟩) (fun _ _ => ⟨mt _ (K2 (by omega) (by omega)).1, (K2 (by omega) (by omega)).2.keep KK nin0 nin0⟩) (fun _ _ => ⟨mt _ (K3 (by omega) (by omega)).1, (K3 (by omega) (by omega)).2.keep KK nin0 nin0⟩)) (lenOf bAt0_pd rfl) rfl rfl rfl (by decide) (by decide) (ce' := 2) (sl' := 88) rfl rfl (by decide) (by decide) ?_
    rintro _ h_7 σ_8 m_9 ⟨rfl, rfl⟩
    refine Road.Go.weaken (σ' := τ) m_9 (Nat.le_refl _) (Nat.le_refl _) ?_
    refine Road.if_eq 59 82 bA5_d59 rfl (fun q => absurd q (by decide)) (fun hc59 => ?_)
    exact J4 h τ l0 m0 mt KK sl0 SL
  have J2 : ∀ (h : Heap) (τ : Addr → Prop) (l0 m0 : Addr), (∀ x, σ x → τ x) → Keep h0 h [] → τ (Road.lm n0 8 l0) → Road.Str Z h l0 m0 [67, 111, 110, 115, 111, 108, 101, 83, 101, 116, 116, 105, 110, 103, 115, 91, 98, 105, 110, 100, 61] → Road.Go l Z a0 consts_1 n0 false bA5N1 D (fun v h2 s2 => v = some (.int 1) ∧ Keep h0 h2 [] ∧ ((∃ l0 m0, s2 (Road.lm n0 8 l0) ∧ Road.Str Z h2 l0 m0 [67, 111, 110, 115, 111, 108, 101, 83, 101, 116, 116, 105, 110, 103, 115, 91, 98, 105, 110, 100, 61]) ∨ ∀ j, j < 5 → ¬ (i + j < 21))) h τ 2 88 30 #[.val (.ref t), .val (.int (Nat.toInt32 i)), .val (.ref s), .val (.int (Nat.toInt32 m)), .val (.int (Nat.toInt32 (Road.decN m).length)), .val (.ref u)] [] := by
    intro h τ l0 m0 mt KK sl0 SL
    refine Road.aloadN 30 bA5_d30 rfl ?_
    refine Road.iloadN 31 bA5_d31 rfl ?_
    refine Road.iconst 32 (2 : Int32) bA5_d32 rfl ?_
    refine Road.iadd 33 bA5_d33 ?_
    refine Road.nameI ?_
    intro z_11 hz_11
    obtain rfl : z_11 = (Nat.toInt32 (i + 2)) := by rw [hz_11]; rw [show (2 : Int32) = Nat.toInt32 2 from rfl, Road.add32n]
    refine Road.aloadN 34 bA5_d34 rfl ?_
    refine Road.iloadN 35 bA5_d35 rfl ?_
    refine Road.iload 36 bA5_d36 rfl ?_
    refine Road.aload 38 bA5_d38 rfl ?_
    refine Road.callS (B' := bAt0) 40 (argsL := [(.ref t), (.int (Nat.toInt32 (i + 2))), (.ref s), (.int (Nat.toInt32 m)), (.int (Nat.toInt32 (Road.decN m).length)), (.ref u)]) (rest := []) 0 bA5_d40 (wI hw 282 rfl) (wI hw 283 rfl) (wI hw 276 rfl) (wI hw 284 rfl) (by decide) (cAt0 l Z a0 hw n0 hEW t td (i + 2) s sb u ub bs us m l0 m0 l2 m2 l3 m3 h τ (Tt.keep KK nin0 nin0) (T.keep KK nin0 nin0) (U.keep KK nin0 nin0) hbs hus hm (by omega) cp Hc hcp fm hfm Hf (fun _ => ⟨sl0, SL⟩) (fun _ _ => ⟨mt _ (K2 (by omega) (by omega)).1, (K2 (by omega) (by omega)).2.keep KK nin0 nin0⟩) (fun _ _ => ⟨mt _ (K3 (by omega) (by omega)).1, (K3 (by omega) (by omega)).2.keep KK nin0 nin0⟩)) (lenOf bAt0_pd rfl) rfl rfl rfl (by decide) (by decide) (ce' := 2) (sl' := 88) rfl rfl (by decide) (by decide) ?_
    rintro _ h_12 σ_13 m_14 ⟨rfl, rfl⟩
    refine Road.Go.weaken (σ' := τ) m_14 (Nat.le_refl _) (Nat.le_refl _) ?_
    refine Road.if_eq 43 82 bA5_d43 rfl (fun q => absurd q (by decide)) (fun hc43 => ?_)
    exact J3 h τ l0 m0 mt KK sl0 SL
  have J1 : ∀ (h : Heap) (τ : Addr → Prop) (l0 m0 : Addr), (∀ x, σ x → τ x) → Keep h0 h [] → τ (Road.lm n0 8 l0) → Road.Str Z h l0 m0 [67, 111, 110, 115, 111, 108, 101, 83, 101, 116, 116, 105, 110, 103, 115, 91, 98, 105, 110, 100, 61] → Road.Go l Z a0 consts_1 n0 false bA5N1 D (fun v h2 s2 => v = some (.int 1) ∧ Keep h0 h2 [] ∧ ((∃ l0 m0, s2 (Road.lm n0 8 l0) ∧ Road.Str Z h2 l0 m0 [67, 111, 110, 115, 111, 108, 101, 83, 101, 116, 116, 105, 110, 103, 115, 91, 98, 105, 110, 100, 61]) ∨ ∀ j, j < 5 → ¬ (i + j < 21))) h τ 2 88 14 #[.val (.ref t), .val (.int (Nat.toInt32 i)), .val (.ref s), .val (.int (Nat.toInt32 m)), .val (.int (Nat.toInt32 (Road.decN m).length)), .val (.ref u)] [] := by
    intro h τ l0 m0 mt KK sl0 SL
    refine Road.aloadN 14 bA5_d14 rfl ?_
    refine Road.iloadN 15 bA5_d15 rfl ?_
    refine Road.iconst 16 (1 : Int32) bA5_d16 rfl ?_
    refine Road.iadd 17 bA5_d17 ?_
    refine Road.nameI ?_
    intro z_16 hz_16
    obtain rfl : z_16 = (Nat.toInt32 (i + 1)) := by rw [hz_16]; rw [show (1 : Int32) = Nat.toInt32 1 from rfl, Road.add32n]
    refine Road.aloadN 18 bA5_d18 rfl ?_
    refine Road.iloadN 19 bA5_d19 rfl ?_
    refine Road.iload 20 bA5_d20 rfl ?_
    refine Road.aload 22 bA5_d22 rfl ?_
    refine Road.callS (B' := bAt0) 24 (argsL := [(.ref t), (.int (Nat.toInt32 (i + 1))), (.ref s), (.int (Nat.toInt32 m)), (.int (Nat.toInt32 (Road.decN m).length)), (.ref u)]) (rest := []) 0 bA5_d24 (wI hw 282 rfl) (wI hw 283 rfl) (wI hw 276 rfl) (wI hw 284 rfl) (by decide) (cAt0 l Z a0 hw n0 hEW t td (i + 1) s sb u ub bs us m l0 m0 l2 m2 l3 m3 h τ (Tt.keep KK nin0 nin0) (T.keep KK nin0 nin0) (U.keep KK nin0 nin0) hbs hus hm (by omega) cp Hc hcp fm hfm Hf (fun _ => ⟨sl0, SL⟩) (fun _ _ => ⟨mt _ (K2 (by omega) (by omega)).1, (K2 (by omega) (by omega)).2.keep KK nin0 nin0⟩) (fun _ _ => ⟨mt _ (K3 (by omega) (by omega)).1, (K3 (by omega) (by omega)).2.keep KK nin0 nin0⟩)) (lenOf bAt0_pd rfl) rfl rfl rfl (by decide) (by decide) (ce' := 2) (sl' := 88) rfl rfl (by decide) (by decide) ?_
    rintro _ h_17 σ_18 m_19 ⟨rfl, rfl⟩
    refine Road.Go.weaken (σ' := τ) m_19 (Nat.le_refl _) (Nat.le_refl _) ?_
    refine Road.if_eq 27 82 bA5_d27 rfl (fun q => absurd q (by decide)) (fun hc27 => ?_)
    exact J2 h τ l0 m0 mt KK sl0 SL
  refine Road.aloadN 0 bA5_d0 rfl ?_
  refine Road.iloadN 1 bA5_d1 rfl ?_
  refine Road.aloadN 2 bA5_d2 rfl ?_
  refine Road.iloadN 3 bA5_d3 rfl ?_
  refine Road.iload 4 bA5_d4 rfl ?_
  refine Road.aload 6 bA5_d6 rfl ?_
  by_cases hr0 : (i < 21)
  · skip
    refine Road.callS (B' := bAtN1) 8 (argsL := [(.ref t), (.int (Nat.toInt32 i)), (.ref s), (.int (Nat.toInt32 m)), (.int (Nat.toInt32 (Road.decN m).length)), (.ref u)]) (rest := []) 0 bA5_d8 (wI hw 282 rfl) (wI hw 283 rfl) (wI hw 276 rfl) (wI hw 284 rfl) (by decide) (cAtN1 l Z a0 hw n0 hEW t td i s sb u ub bs us m h0 σ Tt T U hbs hus hm (by omega) cp Hc hcp fm hfm Hf hr0) (lenOf bAtN1_pd rfl) rfl rfl rfl (by decide) (by decide) (ce' := 2) (sl' := 88) rfl rfl (by decide) (by decide) ?_
    rintro _ h_21 σ_22 m_23 ⟨rfl, K_24, l0, m0, sl0, SL⟩
    refine Road.if_eq 11 82 bA5_d11 rfl (fun q => absurd q (by decide)) (fun hc11 => ?_)
    exact J1 h_21 σ_22 l0 m0 m_23 K_24 sl0 SL
  · skip
    refine Road.callS (B' := bAt0) 8 (argsL := [(.ref t), (.int (Nat.toInt32 i)), (.ref s), (.int (Nat.toInt32 m)), (.int (Nat.toInt32 (Road.decN m).length)), (.ref u)]) (rest := []) 0 bA5_d8 (wI hw 282 rfl) (wI hw 283 rfl) (wI hw 276 rfl) (wI hw 284 rfl) (by decide) (cAt0 l Z a0 hw n0 hEW t td i s sb u ub bs us m s s l2 m2 l3 m3 h0 σ Tt T U hbs hus hm (by omega) cp Hc hcp fm hfm Hf (fun q => absurd q hr0) (fun _ _ => K2 (by omega) (by omega)) (fun _ _ => K3 (by omega) (by omega))) (lenOf bAt0_pd rfl) rfl rfl rfl (by decide) (by decide) (ce' := 0) (sl' := 0) rfl rfl (by decide) (by decide) ?_
    rintro _ h_25 σ_26 m_27 ⟨rfl, rfl⟩
    refine Road.Go.weaken (σ' := σ) m_27 (Nat.le_refl _) (Nat.le_refl _) ?_
    refine Road.if_eq 11 82 bA5_d11 rfl (fun q => absurd q (by decide)) (fun hc11 => ?_)
    refine Road.aloadN 14 bA5_d14 rfl ?_
    refine Road.iloadN 15 bA5_d15 rfl ?_
    refine Road.iconst 16 (1 : Int32) bA5_d16 rfl ?_
    refine Road.iadd 17 bA5_d17 ?_
    refine Road.nameI ?_
    intro z_29 hz_29
    obtain rfl : z_29 = (Nat.toInt32 (i + 1)) := by rw [hz_29]; rw [show (1 : Int32) = Nat.toInt32 1 from rfl, Road.add32n]
    refine Road.aloadN 18 bA5_d18 rfl ?_
    refine Road.iloadN 19 bA5_d19 rfl ?_
    refine Road.iload 20 bA5_d20 rfl ?_
    refine Road.aload 22 bA5_d22 rfl ?_
    by_cases hr1 : ((i + 1) < 21)
    · skip
      refine Road.callS (B' := bAtN1) 24 (argsL := [(.ref t), (.int (Nat.toInt32 (i + 1))), (.ref s), (.int (Nat.toInt32 m)), (.int (Nat.toInt32 (Road.decN m).length)), (.ref u)]) (rest := []) 0 bA5_d24 (wI hw 282 rfl) (wI hw 283 rfl) (wI hw 276 rfl) (wI hw 284 rfl) (by decide) (cAtN1 l Z a0 hw n0 hEW t td (i + 1) s sb u ub bs us m h0 σ Tt T U hbs hus hm (by omega) cp Hc hcp fm hfm Hf hr1) (lenOf bAtN1_pd rfl) rfl rfl rfl (by decide) (by decide) (ce' := 2) (sl' := 88) rfl rfl (by decide) (by decide) ?_
      rintro _ h_30 σ_31 m_32 ⟨rfl, K_33, l0, m0, sl0, SL⟩
      refine Road.if_eq 27 82 bA5_d27 rfl (fun q => absurd q (by decide)) (fun hc27 => ?_)
      exact J2 h_30 σ_31 l0 m0 m_32 K_33 sl0 SL
    · skip
      refine Road.callS (B' := bAt0) 24 (argsL := [(.ref t), (.int (Nat.toInt32 (i + 1))), (.ref s), (.int (Nat.toInt32 m)), (.int (Nat.toInt32 (Road.decN m).length)), (.ref u)]) (rest := []) 0 bA5_d24 (wI hw 282 rfl) (wI hw 283 rfl) (wI hw 276 rfl) (wI hw 284 rfl) (by decide) (cAt0 l Z a0 hw n0 hEW t td (i + 1) s sb u ub bs us m s s l2 m2 l3 m3 h0 σ Tt T U hbs hus hm (by omega) cp Hc hcp fm hfm Hf (fun q => absurd q hr1) (fun _ _ => K2 (by omega) (by omega)) (fun _ _ => K3 (by omega) (by omega))) (lenOf bAt0_pd rfl) rfl rfl rfl (by decide) (by decide) (ce' := 0) (sl' := 0) rfl rfl (by decide) (by decide) ?_
      rintro _ h_34 σ_35 m_36 ⟨rfl, rfl⟩
      refine Road.Go.weaken (σ' := σ) m_36 (Nat.le_refl _) (Nat.le_refl _) ?_
      refine Road.if_eq 27 82 bA5_d27 rfl (fun q => absurd q (by decide)) (fun hc27 => ?_)
      refine Road.aloadN 30 bA5_d30 rfl ?_
      refine Road.iloadN 31 bA5_d31 rfl ?_
      refine Road.iconst 32 (2 : Int32) bA5_d32 rfl ?_
      refine Road.iadd 33 bA5_d33 ?_
      refine Road.nameI ?_
      intro z_38 hz_38
      obtain rfl : z_38 = (Nat.toInt32 (i + 2)) := by rw [hz_38]; rw [show (2 : Int32) = Nat.toInt32 2 from rfl, Road.add32n]
      refine Road.aloadN 34 bA5_d34 rfl ?_
      refine Road.iloadN 35 bA5_d35 rfl ?_
      refine Road.iload 36 bA5_d36 rfl ?_
      refine Road.aload 38 bA5_d38 rfl ?_
      by_cases hr2 : ((i + 2) < 21)
      · skip
        refine Road.callS (B' := bAtN1) 40 (argsL := [(.ref t), (.int (Nat.toInt32 (i + 2))), (.ref s), (.int (Nat.toInt32 m)), (.int (Nat.toInt32 (Road.decN m).length)), (.ref u)]) (rest := []) 0 bA5_d40 (wI hw 282 rfl) (wI hw 283 rfl) (wI hw 276 rfl) (wI hw 284 rfl) (by decide) (cAtN1 l Z a0 hw n0 hEW t td (i + 2) s sb u ub bs us m h0 σ Tt T U hbs hus hm (by omega) cp Hc hcp fm hfm Hf hr2) (lenOf bAtN1_pd rfl) rfl rfl rfl (by decide) (by decide) (ce' := 2) (sl' := 88) rfl rfl (by decide) (by decide) ?_
        rintro _ h_39 σ_40 m_41 ⟨rfl, K_42, l0, m0, sl0, SL⟩
        refine Road.if_eq 43 82 bA5_d43 rfl (fun q => absurd q (by decide)) (fun hc43 => ?_)
        exact J3 h_39 σ_40 l0 m0 m_41 K_42 sl0 SL
      · skip
        refine Road.callS (B' := bAt0) 40 (argsL := [(.ref t), (.int (Nat.toInt32 (i + 2))), (.ref s), (.int (Nat.toInt32 m)), (.int (Nat.toInt32 (Road.decN m).length)), (.ref u)]) (rest := []) 0 bA5_d40 (wI hw 282 rfl) (wI hw 283 rfl) (wI hw 276 rfl) (wI hw 284 rfl) (by decide) (cAt0 l Z a0 hw n0 hEW t td (i + 2) s sb u ub bs us m s s l2 m2 l3 m3 h0 σ Tt T U hbs hus hm (by omega) cp Hc hcp fm hfm Hf (fun q => absurd q hr2) (fun _ _ => K2 (by omega) (by omega)) (fun _ _ => K3 (by omega) (by omega))) (lenOf bAt0_pd rfl) rfl rfl rfl (by decide) (by decide) (ce' := 0) (sl' := 0) rfl rfl (by decide) (by decide) ?_
        rintro _ h_43 σ_44 m_45 ⟨rfl, rfl⟩
        refine Road.Go.weaken (σ' := σ) m_45 (Nat.le_refl _) (Nat.le_refl _) ?_
        refine Road.if_eq 43 82 bA5_d43 rfl (fun q => absurd q (by decide)) (fun hc43 => ?_)
        refine Road.aloadN 46 bA5_d46 rfl ?_
        refine Road.iloadN 47 bA5_d47 rfl ?_
        refine Road.iconst 48 (3 : Int32) bA5_d48 rfl ?_
        refine Road.iadd 49 bA5_d49 ?_
        refine Road.nameI ?_
        intro z_47 hz_47
        obtain rfl : z_47 = (Nat.toInt32 (i + 3)) := by rw [hz_47]; rw [show (3 : Int32) = Nat.toInt32 3 from rfl, Road.add32n]
        refine Road.aloadN 50 bA5_d50 rfl ?_
        refine Road.iloadN 51 bA5_d51 rfl ?_
        refine Road.iload 52 bA5_d52 rfl ?_
        refine Road.aload 54 bA5_d54 rfl ?_
        by_cases hr3 : ((i + 3) < 21)
        · skip
          refine Road.callS (B' := bAtN1) 56 (argsL := [(.ref t), (.int (Nat.toInt32 (i + 3))), (.ref s), (.int (Nat.toInt32 m)), (.int (Nat.toInt32 (Road.decN m).length)), (.ref u)]) (rest := []) 0 bA5_d56 (wI hw 282 rfl) (wI hw 283 rfl) (wI hw 276 rfl) (wI hw 284 rfl) (by decide) (cAtN1 l Z a0 hw n0 hEW t td (i + 3) s sb u ub bs us m h0 σ Tt T U hbs hus hm (by omega) cp Hc hcp fm hfm Hf hr3) (lenOf bAtN1_pd rfl) rfl rfl rfl (by decide) (by decide) (ce' := 2) (sl' := 88) rfl rfl (by decide) (by decide) ?_
          rintro _ h_48 σ_49 m_50 ⟨rfl, K_51, l0, m0, sl0, SL⟩
          refine Road.if_eq 59 82 bA5_d59 rfl (fun q => absurd q (by decide)) (fun hc59 => ?_)
          exact J4 h_48 σ_49 l0 m0 m_50 K_51 sl0 SL
        · skip
          refine Road.callS (B' := bAt0) 56 (argsL := [(.ref t), (.int (Nat.toInt32 (i + 3))), (.ref s), (.int (Nat.toInt32 m)), (.int (Nat.toInt32 (Road.decN m).length)), (.ref u)]) (rest := []) 0 bA5_d56 (wI hw 282 rfl) (wI hw 283 rfl) (wI hw 276 rfl) (wI hw 284 rfl) (by decide) (cAt0 l Z a0 hw n0 hEW t td (i + 3) s sb u ub bs us m s s l2 m2 l3 m3 h0 σ Tt T U hbs hus hm (by omega) cp Hc hcp fm hfm Hf (fun q => absurd q hr3) (fun _ _ => K2 (by omega) (by omega)) (fun _ _ => K3 (by omega) (by omega))) (lenOf bAt0_pd rfl) rfl rfl rfl (by decide) (by decide) (ce' := 0) (sl' := 0) rfl rfl (by decide) (by decide) ?_
          rintro _ h_52 σ_53 m_54 ⟨rfl, rfl⟩
          refine Road.Go.weaken (σ' := σ) m_54 (Nat.le_refl _) (Nat.le_refl _) ?_
          refine Road.if_eq 59 82 bA5_d59 rfl (fun q => absurd q (by decide)) (fun hc59 => ?_)
          refine Road.aloadN 62 bA5_d62 rfl ?_
          refine Road.iloadN 63 bA5_d63 rfl ?_
          refine Road.iconst 64 (4 : Int32) bA5_d64 rfl ?_
          refine Road.iadd 65 bA5_d65 ?_
          refine Road.nameI ?_
          intro z_56 hz_56
          obtain rfl : z_56 = (Nat.toInt32 (i + 4)) := by rw [hz_56]; rw [show (4 : Int32) = Nat.toInt32 4 from rfl, Road.add32n]
          refine Road.aloadN 66 bA5_d66 rfl ?_
          refine Road.iloadN 67 bA5_d67 rfl ?_
          refine Road.iload 68 bA5_d68 rfl ?_
          refine Road.aload 70 bA5_d70 rfl ?_
          by_cases hr4 : ((i + 4) < 21)
          · skip
            refine Road.callS (B' := bAtN1) 72 (argsL := [(.ref t), (.int (Nat.toInt32 (i + 4))), (.ref s), (.int (Nat.toInt32 m)), (.int (Nat.toInt32 (Road.decN m).length)), (.ref u)]) (rest := []) 0 bA5_d72 (wI hw 282 rfl) (wI hw 283 rfl) (wI hw 276 rfl) (wI hw 284 rfl) (by decide) (cAtN1 l Z a0 hw n0 hEW t td (i + 4) s sb u ub bs us m h0 σ Tt T U hbs hus hm (by omega) cp Hc hcp fm hfm Hf hr4) (lenOf bAtN1_pd rfl) rfl rfl rfl (by decide) (by decide) (ce' := 2) (sl' := 88) rfl rfl (by decide) (by decide) ?_
            rintro _ h_57 σ_58 m_59 ⟨rfl, K_60, l0, m0, sl0, SL⟩
            refine Road.if_eq 75 82 bA5_d75 rfl (fun q => absurd q (by decide)) (fun hc75 => ?_)
            exact J5 h_57 σ_58 l0 m0 m_59 K_60 sl0 SL
          · skip
            refine Road.callS (B' := bAt0) 72 (argsL := [(.ref t), (.int (Nat.toInt32 (i + 4))), (.ref s), (.int (Nat.toInt32 m)), (.int (Nat.toInt32 (Road.decN m).length)), (.ref u)]) (rest := []) 0 bA5_d72 (wI hw 282 rfl) (wI hw 283 rfl) (wI hw 276 rfl) (wI hw 284 rfl) (by decide) (cAt0 l Z a0 hw n0 hEW t td (i + 4) s sb u ub bs us m s s l2 m2 l3 m3 h0 σ Tt T U hbs hus hm (by omega) cp Hc hcp fm hfm Hf (fun q => absurd q hr4) (fun _ _ => K2 (by omega) (by omega)) (fun _ _ => K3 (by omega) (by omega))) (lenOf bAt0_pd rfl) rfl rfl rfl (by decide) (by decide) (ce' := 0) (sl' := 0) rfl rfl (by decide) (by decide) ?_
            rintro _ h_61 σ_62 m_63 ⟨rfl, rfl⟩
            refine Road.Go.weaken (σ' := σ) m_63 (Nat.le_refl _) (Nat.le_refl _) ?_
            refine Road.if_eq 75 82 bA5_d75 rfl (fun q => absurd q (by decide)) (fun hc75 => ?_)
            refine Road.iconst 78 (1 : Int32) bA5_d78 rfl ?_
            refine Road.goto 79 83 bA5_d79 rfl ?_
            exact Road.iret 83 1 bA5_d83 (t := .boolean) rfl (by simp) rfl (by decide) (by decide) (fun σ' m => ⟨rfl, Keep.refl _ _, Or.inr (fun j hj => by rcases (by omega : j = 0 ∨ j = 1 ∨ j = 2 ∨ j = 3 ∨ j = 4) with rfl | rfl | rfl | rfl | rfl <;> assumption)⟩)
def bA5N2 : Road.Bdy := (⟨"com/example/orderly_tasks/orderlytasks/ConsoleSettingsToStringPinLaw", "at5", "(Ljava/lang/String;ILjava/lang/String;IILjava/lang/String;)Z"⟩, method_7_code, 6, (some .boolean), { frames := 6, cells := 2, slots := 32, locals := 88 })
theorem bA5N2_pd : parseMethodDescriptor "(Ljava/lang/String;ILjava/lang/String;IILjava/lang/String;)Z" = some ⟨[(.object "java/lang/String"), .int, (.object "java/lang/String"), .int, .int, (.object "java/lang/String")], (some .boolean)⟩ := by decide +kernel
theorem bA5N2_pn : plainFor bA5N2.y = true := plainFor_of_name (show plainName "com/example/orderly_tasks/orderlytasks/ConsoleSettingsToStringPinLaw" = true from by first | (simp [plainName, overriddenIn]; done) | decide +kernel)
theorem cA5N2 (l : Launch) (Z : State) (a0 : Array Value) (hw : ∀ d ∈ tables_1, d.before a0 Z = true) (n0 : Nat) (hEW : EW Z a0 consts_1) (t td : Addr) (i : Nat) (s sb u ub : Addr) (bs us : List Int32) (m : Nat) (l1 m1 l3 m3 : Addr) (h0 : Heap) (σ : Addr → Prop) (Tt : Road.Str Z h0 t td ([67, 111, 110, 115, 111, 108, 101, 83, 101, 116, 116, 105, 110, 103, 115, 91, 98, 105, 110, 100, 61] ++ bs ++ [44, 32, 112, 111, 114, 116, 61] ++ Road.decN m ++ [44, 32, 117, 115, 101, 114, 61] ++ us ++ [93])) (T : Road.Str Z h0 s sb bs) (U : Road.Str Z h0 u ub us) (hbs : bs.length ≤ 2) (hus : us.length ≤ 2) (hm : m < 65536) (hi1 : i < 900) (cp : Int32) (Hc : Sta Z Z.heap Road.SN "COMPACT_STRINGS" "Z" (.int cp)) (hcp : ¬ cp = 0) (fm : Value) (hfm : fm.isRef = true) (Hf : Sta Z Z.heap "jdk/internal/util/Preconditions" "SIOOBE_FORMATTER" "Ljava/util/function/BiFunction;" fm) (K1 : i < 21 → (σ (Road.lm n0 8 l1) ∧ Road.Str Z h0 l1 m1 [67, 111, 110, 115, 111, 108, 101, 83, 101, 116, 116, 105, 110, 103, 115, 91, 98, 105, 110, 100, 61])) (K3 : 28 + bs.length + (Road.decN m).length ≤ i + 4 → i < 35 + bs.length + (Road.decN m).length → (σ (Road.lm n0 10 l3) ∧ Road.Str Z h0 l3 m3 [44, 32, 117, 115, 101, 114, 61])) :
    Road.Con l Z consts_1 n0 false bA5N2 [] σ #[(.ref t), (.int (Nat.toInt32 i)), (.ref s), (.int (Nat.toInt32 m)), (.int (Nat.toInt32 (Road.decN m).length)), (.ref u)] h0 (fun v h2 s2 => v = some (.int 1) ∧ Keep h0 h2 [] ∧ ((∃ l0 m0, s2 (Road.lm n0 9 l0) ∧ Road.Str Z h2 l0 m0 [44, 32, 112, 111, 114, 116, 61]) ∨ ∀ j, j < 5 → ¬ (21 + bs.length ≤ i + j ∧ i + j < 28 + bs.length))) := by
  refine Road.Con.of bA5N2_pn hEW #[.val (.ref t), .val (.int (Nat.toInt32 i)), .val (.ref s), .val (.int (Nat.toInt32 m)), .val (.int (Nat.toInt32 (Road.decN m).length)), .val (.ref u)] (fun m => Road.ent (Road.laid1 rfl (Road.laid1 rfl (Road.laid1 rfl (Road.laid1 rfl (Road.laid1 rfl (Road.laid1 rfl Road.laid0)))))) (k := 0) rfl rfl) ?_
  intro D hD
  have J5 : ∀ (h : Heap) (τ : Addr → Prop) (l0 m0 : Addr), (∀ x, σ x → τ x) → Keep h0 h [] → τ (Road.lm n0 9 l0) → Road.Str Z h l0 m0 [44, 32, 112, 111, 114, 116, 61] → Road.Go l Z a0 consts_1 n0 false bA5N2 D (fun v h2 s2 => v = some (.int 1) ∧ Keep h0 h2 [] ∧ ((∃ l0 m0, s2 (Road.lm n0 9 l0) ∧ Road.Str Z h2 l0 m0 [44, 32, 112, 111, 114, 116, 61]) ∨ ∀ j, j < 5 → ¬ (21 + bs.length ≤ i + j ∧ i + j < 28 + bs.length))) h τ 2 32 78 #[.val (.ref t), .val (.int (Nat.toInt32 i)), .val (.ref s), .val (.int (Nat.toInt32 m)), .val (.int (Nat.toInt32 (Road.decN m).length)), .val (.ref u)] [] := by
    intro h τ l0 m0 mt KK sl0 SL
    refine Road.iconst 78 (1 : Int32) bA5_d78 rfl ?_
    refine Road.goto 79 83 bA5_d79 rfl ?_
    exact Road.iret 83 1 bA5_d83 (t := .boolean) rfl (by simp) rfl (by decide) (by decide) (fun σ' m => ⟨rfl, KK, Or.inl ⟨l0, m0, m _ sl0, SL⟩⟩)
  have J4 : ∀ (h : Heap) (τ : Addr → Prop) (l0 m0 : Addr), (∀ x, σ x → τ x) → Keep h0 h [] → τ (Road.lm n0 9 l0) → Road.Str Z h l0 m0 [44, 32, 112, 111, 114, 116, 61] → Road.Go l Z a0 consts_1 n0 false bA5N2 D (fun v h2 s2 => v = some (.int 1) ∧ Keep h0 h2 [] ∧ ((∃ l0 m0, s2 (Road.lm n0 9 l0) ∧ Road.Str Z h2 l0 m0 [44, 32, 112, 111, 114, 116, 61]) ∨ ∀ j, j < 5 → ¬ (21 + bs.length ≤ i + j ∧ i + j < 28 + bs.length))) h τ 2 32 62 #[.val (.ref t), .val (.int (Nat.toInt32 i)), .val (.ref s), .val (.int (Nat.toInt32 m)), .val (.int (Nat.toInt32 (Road.decN m).length)), .val (.ref u)] [] := by
    intro h τ l0 m0 mt KK sl0 SL
    refine Road.aloadN 62 bA5_d62 rfl ?_
    refine Road.iloadN 63 bA5_d63 rfl ?_
    refine Road.iconst 64 (4 : Int32) bA5_d64 rfl ?_
    refine Road.iadd 65 bA5_d65 ?_
    refine Road.nameI ?_
    intro z_1 hz_1
    obtain rfl : z_1 = (Nat.toInt32 (i + 4)) := by rw [hz_1]; rw [show (4 : Int32) = Nat.toInt32 4 from rfl, Road.add32n]
    refine Road.aloadN 66 bA5_d66 rfl ?_
    refine Road.iloadN 67 bA5_d67 rfl ?_
    refine Road.iload 68 bA5_d68 rfl ?_
    refine Road.aload 70 bA5_d70 rfl ?_
    refine Road.callS (B' := bAt0) 72 (argsL := [(.ref t), (.int (Nat.toInt32 (i + 4))), (.ref s), (.int (Nat.toInt32 m)), (.int (Nat.toInt32 (Road.decN m).length)), (.ref u)]) (rest := []) 0 bA5_d72 (wI hw 282 rfl) (wI hw 283 rfl) (wI hw 276 rfl) (wI hw 284 rfl) (by decide) (cAt0 l Z a0 hw n0 hEW t td (i + 4) s sb u ub bs us m l1 m1 l0 m0 l3 m3 h τ (Tt.keep KK nin0 nin0) (T.keep KK nin0 nin0) (U.keep KK nin0 nin0) hbs hus hm (by omega) cp Hc hcp fm hfm Hf (fun _ => ⟨mt _ (K1 (by omega)).1, (K1 (by omega)).2.keep KK nin0 nin0⟩) (fun _ _ => ⟨sl0, SL⟩) (fun _ _ => ⟨mt _ (K3 (by omega) (by omega)).1, (K3 (by omega) (by omega)).2.keep KK nin0 nin0⟩)) (lenOf bAt0_pd rfl) rfl rfl rfl (by decide) (by decide) (ce' := 2) (sl' := 32) rfl rfl (by decide) (by decide) ?_
    rintro _ h_2 σ_3 m_4 ⟨rfl, rfl⟩
    refine Road.Go.weaken (σ' := τ) m_4 (Nat.le_refl _) (Nat.le_refl _) ?_
    refine Road.if_eq 75 82 bA5_d75 rfl (fun q => absurd q (by decide)) (fun hc75 => ?_)
    exact J5 h τ l0 m0 mt KK sl0 SL
  have J3 : ∀ (h : Heap) (τ : Addr → Prop) (l0 m0 : Addr), (∀ x, σ x → τ x) → Keep h0 h [] → τ (Road.lm n0 9 l0) → Road.Str Z h l0 m0 [44, 32, 112, 111, 114, 116, 61] → Road.Go l Z a0 consts_1 n0 false bA5N2 D (fun v h2 s2 => v = some (.int 1) ∧ Keep h0 h2 [] ∧ ((∃ l0 m0, s2 (Road.lm n0 9 l0) ∧ Road.Str Z h2 l0 m0 [44, 32, 112, 111, 114, 116, 61]) ∨ ∀ j, j < 5 → ¬ (21 + bs.length ≤ i + j ∧ i + j < 28 + bs.length))) h τ 2 32 46 #[.val (.ref t), .val (.int (Nat.toInt32 i)), .val (.ref s), .val (.int (Nat.toInt32 m)), .val (.int (Nat.toInt32 (Road.decN m).length)), .val (.ref u)] [] := by
    intro h τ l0 m0 mt KK sl0 SL
    refine Road.aloadN 46 bA5_d46 rfl ?_
    refine Road.iloadN 47 bA5_d47 rfl ?_
    refine Road.iconst 48 (3 : Int32) bA5_d48 rfl ?_
    refine Road.iadd 49 bA5_d49 ?_
    refine Road.nameI ?_
    intro z_6 hz_6
    obtain rfl : z_6 = (Nat.toInt32 (i + 3)) := by rw [hz_6]; rw [show (3 : Int32) = Nat.toInt32 3 from rfl, Road.add32n]
    refine Road.aloadN 50 bA5_d50 rfl ?_
    refine Road.iloadN 51 bA5_d51 rfl ?_
    refine Road.iload 52 bA5_d52 rfl ?_
    refine Road.aload 54 bA5_d54 rfl ?_
    refine Road.callS (B' := bAt0) 56 (argsL := [(.ref t), (.int (Nat.toInt32 (i + 3))), (.ref s), (.int (Nat.toInt32 m)), (.int (Nat.toInt32 (Road.decN m).length)), (.ref u)]) (rest := []) 0 bA5_d56 (wI hw 282 rfl) (wI hw 283 rfl) (wI hw 276 rfl) (wI hw 284 rfl) (by decide) (cAt0 l Z a0 hw n0 hEW t td (i + 3) s sb u ub bs us m l1 m1 l0 m0 l3 m3 h τ (Tt.keep KK nin0 nin0) (T.keep KK nin0 nin0) (U.keep KK nin0 nin0) hbs hus hm (by omega) cp Hc hcp fm hfm Hf (fun _ => ⟨mt _ (K1 (by omega)).1, (K1 (by omega)).2.keep KK nin0 nin0⟩) (fun _ _ => ⟨sl0, SL⟩) (fun _ _ => ⟨mt _ (K3 (by omega) (by omega)).1, (K3 (by omega) (by omega)).2.keep KK nin0 nin0⟩)) (lenOf bAt0_pd rfl) rfl rfl rfl (by decide) (by decide) (ce' := 2) (sl' := 32) rfl rfl (by decide) (by decide) ?_
    rintro _ h_7 σ_8 m_9 ⟨rfl, rfl⟩
    refine Road.Go.weaken (σ' := τ) m_9 (Nat.le_refl _) (Nat.le_refl _) ?_
    refine Road.if_eq 59 82 bA5_d59 rfl (fun q => absurd q (by decide)) (fun hc59 => ?_)
    exact J4 h τ l0 m0 mt KK sl0 SL
  have J2 : ∀ (h : Heap) (τ : Addr → Prop) (l0 m0 : Addr), (∀ x, σ x → τ x) → Keep h0 h [] → τ (Road.lm n0 9 l0) → Road.Str Z h l0 m0 [44, 32, 112, 111, 114, 116, 61] → Road.Go l Z a0 consts_1 n0 false bA5N2 D (fun v h2 s2 => v = some (.int 1) ∧ Keep h0 h2 [] ∧ ((∃ l0 m0, s2 (Road.lm n0 9 l0) ∧ Road.Str Z h2 l0 m0 [44, 32, 112, 111, 114, 116, 61]) ∨ ∀ j, j < 5 → ¬ (21 + bs.length ≤ i + j ∧ i + j < 28 + bs.length))) h τ 2 32 30 #[.val (.ref t), .val (.int (Nat.toInt32 i)), .val (.ref s), .val (.int (Nat.toInt32 m)), .val (.int (Nat.toInt32 (Road.decN m).length)), .val (.ref u)] [] := by
    intro h τ l0 m0 mt KK sl0 SL
    refine Road.aloadN 30 bA5_d30 rfl ?_
    refine Road.iloadN 31 bA5_d31 rfl ?_
    refine Road.iconst 32 (2 : Int32) bA5_d32 rfl ?_
    refine Road.iadd 33 bA5_d33 ?_
    refine Road.nameI ?_
    intro z_11 hz_11
    obtain rfl : z_11 = (Nat.toInt32 (i + 2)) := by rw [hz_11]; rw [show (2 : Int32) = Nat.toInt32 2 from rfl, Road.add32n]
    refine Road.aloadN 34 bA5_d34 rfl ?_
    refine Road.iloadN 35 bA5_d35 rfl ?_
    refine Road.iload 36 bA5_d36 rfl ?_
    refine Road.aload 38 bA5_d38 rfl ?_
    refine Road.callS (B' := bAt0) 40 (argsL := [(.ref t), (.int (Nat.toInt32 (i + 2))), (.ref s), (.int (Nat.toInt32 m)), (.int (Nat.toInt32 (Road.decN m).length)), (.ref u)]) (rest := []) 0 bA5_d40 (wI hw 282 rfl) (wI hw 283 rfl) (wI hw 276 rfl) (wI hw 284 rfl) (by decide) (cAt0 l Z a0 hw n0 hEW t td (i + 2) s sb u ub bs us m l1 m1 l0 m0 l3 m3 h τ (Tt.keep KK nin0 nin0) (T.keep KK nin0 nin0) (U.keep KK nin0 nin0) hbs hus hm (by omega) cp Hc hcp fm hfm Hf (fun _ => ⟨mt _ (K1 (by omega)).1, (K1 (by omega)).2.keep KK nin0 nin0⟩) (fun _ _ => ⟨sl0, SL⟩) (fun _ _ => ⟨mt _ (K3 (by omega) (by omega)).1, (K3 (by omega) (by omega)).2.keep KK nin0 nin0⟩)) (lenOf bAt0_pd rfl) rfl rfl rfl (by decide) (by decide) (ce' := 2) (sl' := 32) rfl rfl (by decide) (by decide) ?_
    rintro _ h_12 σ_13 m_14 ⟨rfl, rfl⟩
    refine Road.Go.weaken (σ' := τ) m_14 (Nat.le_refl _) (Nat.le_refl _) ?_
    refine Road.if_eq 43 82 bA5_d43 rfl (fun q => absurd q (by decide)) (fun hc43 => ?_)
    exact J3 h τ l0 m0 mt KK sl0 SL
  have J1 : ∀ (h : Heap) (τ : Addr → Prop) (l0 m0 : Addr), (∀ x, σ x → τ x) → Keep h0 h [] → τ (Road.lm n0 9 l0) → Road.Str Z h l0 m0 [44, 32, 112, 111, 114, 116, 61] → Road.Go l Z a0 consts_1 n0 false bA5N2 D (fun v h2 s2 => v = some (.int 1) ∧ Keep h0 h2 [] ∧ ((∃ l0 m0, s2 (Road.lm n0 9 l0) ∧ Road.Str Z h2 l0 m0 [44, 32, 112, 111, 114, 116, 61]) ∨ ∀ j, j < 5 → ¬ (21 + bs.length ≤ i + j ∧ i + j < 28 + bs.length))) h τ 2 32 14 #[.val (.ref t), .val (.int (Nat.toInt32 i)), .val (.ref s), .val (.int (Nat.toInt32 m)), .val (.int (Nat.toInt32 (Road.decN m).length)), .val (.ref u)] [] := by
    intro h τ l0 m0 mt KK sl0 SL
    refine Road.aloadN 14 bA5_d14 rfl ?_
    refine Road.iloadN 15 bA5_d15 rfl ?_
    refine Road.iconst 16 (1 : Int32) bA5_d16 rfl ?_
    refine Road.iadd 17 bA5_d17 ?_
    refine Road.nameI ?_
    intro z_16 hz_16
    obtain rfl : z_16 = (Nat.toInt32 (i + 1)) := by rw [hz_16]; rw [show (1 : Int32) = Nat.toInt32 1 from rfl, Road.add32n]
    refine Road.aloadN 18 bA5_d18 rfl ?_
    refine Road.iloadN 19 bA5_d19 rfl ?_
    refine Road.iload 20 bA5_d20 rfl ?_
    refine Road.aload 22 bA5_d22 rfl ?_
    refine Road.callS (B' := bAt0) 24 (argsL := [(.ref t), (.int (Nat.toInt32 (i + 1))), (.ref s), (.int (Nat.toInt32 m)), (.int (Nat.toInt32 (Road.decN m).length)), (.ref u)]) (rest := []) 0 bA5_d24 (wI hw 282 rfl) (wI hw 283 rfl) (wI hw 276 rfl) (wI hw 284 rfl) (by decide) (cAt0 l Z a0 hw n0 hEW t td (i + 1) s sb u ub bs us m l1 m1 l0 m0 l3 m3 h τ (Tt.keep KK nin0 nin0) (T.keep KK nin0 nin0) (U.keep KK nin0 nin0) hbs hus hm (by omega) cp Hc hcp fm hfm Hf (fun _ => ⟨mt _ (K1 (by omega)).1, (K1 (by omega)).2.keep KK nin0 nin0⟩) (fun _ _ => ⟨sl0, SL⟩) (fun _ _ => ⟨mt _ (K3 (by omega) (by omega)).1, (K3 (by omega) (by omega)).2.keep KK nin0 nin0⟩)) (lenOf bAt0_pd rfl) rfl rfl rfl (by decide) (by decide) (ce' := 2) (sl' := 32) rfl rfl (by decide) (by decide) ?_
    rintro _ h_17 σ_18 m_19 ⟨rfl, rfl⟩
    refine Road.Go.weaken (σ' := τ) m_19 (Nat.le_refl _) (Nat.le_refl _) ?_
    refine Road.if_eq 27 82 bA5_d27 rfl (fun q => absurd q (by decide)) (fun hc27 => ?_)
    exact J2 h τ l0 m0 mt KK sl0 SL
  refine Road.aloadN 0 bA5_d0 rfl ?_
  refine Road.iloadN 1 bA5_d1 rfl ?_
  refine Road.aloadN 2 bA5_d2 rfl ?_
  refine Road.iloadN 3 bA5_d3 rfl ?_
  refine Road.iload 4 bA5_d4 rfl ?_
  refine Road.aload 6 bA5_d6 rfl ?_
  by_cases hr0 : (21 + bs.length ≤ i ∧ i < 28 + bs.length)
  · skip
    refine Road.callS (B' := bAtN2) 8 (argsL := [(.ref t), (.int (Nat.toInt32 i)), (.ref s), (.int (Nat.toInt32 m)), (.int (Nat.toInt32 (Road.decN m).length)), (.ref u)]) (rest := []) 0 bA5_d8 (wI hw 282 rfl) (wI hw 283 rfl) (wI hw 276 rfl) (wI hw 284 rfl) (by decide) (cAtN2 l Z a0 hw n0 hEW t td i s sb u ub bs us m h0 σ Tt T U hbs hus hm (by omega) cp Hc hcp fm hfm Hf hr0) (lenOf bAtN2_pd rfl) rfl rfl rfl (by decide) (by decide) (ce' := 2) (sl' := 32) rfl rfl (by decide) (by decide) ?_
    rintro _ h_21 σ_22 m_23 ⟨rfl, K_24, l0, m0, sl0, SL⟩
    refine Road.if_eq 11 82 bA5_d11 rfl (fun q => absurd q (by decide)) (fun hc11 => ?_)
    exact J1 h_21 σ_22 l0 m0 m_23 K_24 sl0 SL
  · skip
    refine Road.callS (B' := bAt0) 8 (argsL := [(.ref t), (.int (Nat.toInt32 i)), (.ref s), (.int (Nat.toInt32 m)), (.int (Nat.toInt32 (Road.decN m).length)), (.ref u)]) (rest := []) 0 bA5_d8 (wI hw 282 rfl) (wI hw 283 rfl) (wI hw 276 rfl) (wI hw 284 rfl) (by decide) (cAt0 l Z a0 hw n0 hEW t td i s sb u ub bs us m l1 m1 s s l3 m3 h0 σ Tt T U hbs hus hm (by omega) cp Hc hcp fm hfm Hf (fun _ => K1 (by omega)) (fun q q' => absurd ⟨q, q'⟩ hr0) (fun _ _ => K3 (by omega) (by omega))) (lenOf bAt0_pd rfl) rfl rfl rfl (by decide) (by decide) (ce' := 0) (sl' := 0) rfl rfl (by decide) (by decide) ?_
    rintro _ h_25 σ_26 m_27 ⟨rfl, rfl⟩
    refine Road.Go.weaken (σ' := σ) m_27 (Nat.le_refl _) (Nat.le_refl _) ?_
    refine Road.if_eq 11 82 bA5_d11 rfl (fun q => absurd q (by decide)) (fun hc11 => ?_)
    refine Road.aloadN 14 bA5_d14 rfl ?_
    refine Road.iloadN 15 bA5_d15 rfl ?_
    refine Road.iconst 16 (1 : Int32) bA5_d16 rfl ?_
    refine Road.iadd 17 bA5_d17 ?_
    refine Road.nameI ?_
    intro z_29 hz_29
    obtain rfl : z_29 = (Nat.toInt32 (i + 1)) := by rw [hz_29]; rw [show (1 : Int32) = Nat.toInt32 1 from rfl, Road.add32n]
    refine Road.aloadN 18 bA5_d18 rfl ?_
    refine Road.iloadN 19 bA5_d19 rfl ?_
    refine Road.iload 20 bA5_d20 rfl ?_
    refine Road.aload 22 bA5_d22 rfl ?_
    by_cases hr1 : (21 + bs.length ≤ (i + 1) ∧ (i + 1) < 28 + bs.length)
    · skip
      refine Road.callS (B' := bAtN2) 24 (argsL := [(.ref t), (.int (Nat.toInt32 (i + 1))), (.ref s), (.int (Nat.toInt32 m)), (.int (Nat.toInt32 (Road.decN m).length)), (.ref u)]) (rest := []) 0 bA5_d24 (wI hw 282 rfl) (wI hw 283 rfl) (wI hw 276 rfl) (wI hw 284 rfl) (by decide) (cAtN2 l Z a0 hw n0 hEW t td (i + 1) s sb u ub bs us m h0 σ Tt T U hbs hus hm (by omega) cp Hc hcp fm hfm Hf hr1) (lenOf bAtN2_pd rfl) rfl rfl rfl (by decide) (by decide) (ce' := 2) (sl' := 32) rfl rfl (by decide) (by decide) ?_
      rintro _ h_30 σ_31 m_32 ⟨rfl, K_33, l0, m0, sl0, SL⟩
      refine Road.if_eq 27 82 bA5_d27 rfl (fun q => absurd q (by decide)) (fun hc27 => ?_)
      exact J2 h_30 σ_31 l0 m0 m_32 K_33 sl0 SL
    · skip
      refine Road.callS (B' := bAt0) 24 (argsL := [(.ref t), (.int (Nat.toInt32 (i + 1))), (.ref s), (.int (Nat.toInt32 m)), (.int (Nat.toInt32 (Road.decN m).length)), (.ref u)]) (rest := []) 0 bA5_d24 (wI hw 282 rfl) (wI hw 283 rfl) (wI hw 276 rfl) (wI hw 284 rfl) (by decide) (cAt0 l Z a0 hw n0 hEW t td (i + 1) s sb u ub bs us m l1 m1 s s l3 m3 h0 σ Tt T U hbs hus hm (by omega) cp Hc hcp fm hfm Hf (fun _ => K1 (by omega)) (fun q q' => absurd ⟨q, q'⟩ hr1) (fun _ _ => K3 (by omega) (by omega))) (lenOf bAt0_pd rfl) rfl rfl rfl (by decide) (by decide) (ce' := 0) (sl' := 0) rfl rfl (by decide) (by decide) ?_
      rintro _ h_34 σ_35 m_36 ⟨rfl, rfl⟩
      refine Road.Go.weaken (σ' := σ) m_36 (Nat.le_refl _) (Nat.le_refl _) ?_
      refine Road.if_eq 27 82 bA5_d27 rfl (fun q => absurd q (by decide)) (fun hc27 => ?_)
      refine Road.aloadN 30 bA5_d30 rfl ?_
      refine Road.iloadN 31 bA5_d31 rfl ?_
      refine Road.iconst 32 (2 : Int32) bA5_d32 rfl ?_
      refine Road.iadd 33 bA5_d33 ?_
      refine Road.nameI ?_
      intro z_38 hz_38
      obtain rfl : z_38 = (Nat.toInt32 (i + 2)) := by rw [hz_38]; rw [show (2 : Int32) = Nat.toInt32 2 from rfl, Road.add32n]
      refine Road.aloadN 34 bA5_d34 rfl ?_
      refine Road.iloadN 35 bA5_d35 rfl ?_
      refine Road.iload 36 bA5_d36 rfl ?_
      refine Road.aload 38 bA5_d38 rfl ?_
      by_cases hr2 : (21 + bs.length ≤ (i + 2) ∧ (i + 2) < 28 + bs.length)
      · skip
        refine Road.callS (B' := bAtN2) 40 (argsL := [(.ref t), (.int (Nat.toInt32 (i + 2))), (.ref s), (.int (Nat.toInt32 m)), (.int (Nat.toInt32 (Road.decN m).length)), (.ref u)]) (rest := []) 0 bA5_d40 (wI hw 282 rfl) (wI hw 283 rfl) (wI hw 276 rfl) (wI hw 284 rfl) (by decide) (cAtN2 l Z a0 hw n0 hEW t td (i + 2) s sb u ub bs us m h0 σ Tt T U hbs hus hm (by omega) cp Hc hcp fm hfm Hf hr2) (lenOf bAtN2_pd rfl) rfl rfl rfl (by decide) (by decide) (ce' := 2) (sl' := 32) rfl rfl (by decide) (by decide) ?_
        rintro _ h_39 σ_40 m_41 ⟨rfl, K_42, l0, m0, sl0, SL⟩
        refine Road.if_eq 43 82 bA5_d43 rfl (fun q => absurd q (by decide)) (fun hc43 => ?_)
        exact J3 h_39 σ_40 l0 m0 m_41 K_42 sl0 SL
      · skip
        refine Road.callS (B' := bAt0) 40 (argsL := [(.ref t), (.int (Nat.toInt32 (i + 2))), (.ref s), (.int (Nat.toInt32 m)), (.int (Nat.toInt32 (Road.decN m).length)), (.ref u)]) (rest := []) 0 bA5_d40 (wI hw 282 rfl) (wI hw 283 rfl) (wI hw 276 rfl) (wI hw 284 rfl) (by decide) (cAt0 l Z a0 hw n0 hEW t td (i + 2) s sb u ub bs us m l1 m1 s s l3 m3 h0 σ Tt T U hbs hus hm (by omega) cp Hc hcp fm hfm Hf (fun _ => K1 (by omega)) (fun q q' => absurd ⟨q, q'⟩ hr2) (fun _ _ => K3 (by omega) (by omega))) (lenOf bAt0_pd rfl) rfl rfl rfl (by decide) (by decide) (ce' := 0) (sl' := 0) rfl rfl (by decide) (by decide) ?_
        rintro _ h_43 σ_44 m_45 ⟨rfl, rfl⟩
        refine Road.Go.weaken (σ' := σ) m_45 (Nat.le_refl _) (Nat.le_refl _) ?_
        refine Road.if_eq 43 82 bA5_d43 rfl (fun q => absurd q (by decide)) (fun hc43 => ?_)
        refine Road.aloadN 46 bA5_d46 rfl ?_
        refine Road.iloadN 47 bA5_d47 rfl ?_
        refine Road.iconst 48 (3 : Int32) bA5_d48 rfl ?_
        refine Road.iadd 49 bA5_d49 ?_
        refine Road.nameI ?_
        intro z_47 hz_47
        obtain rfl : z_47 = (Nat.toInt32 (i + 3)) := by rw [hz_47]; rw [show (3 : Int32) = Nat.toInt32 3 from rfl, Road.add32n]
        refine Road.aloadN 50 bA5_d50 rfl ?_
        refine Road.iloadN 51 bA5_d51 rfl ?_
        refine Road.iload 52 bA5_d52 rfl ?_
        refine Road.aload 54 bA5_d54 rfl ?_
        by_cases hr3 : (21 + bs.length ≤ (i + 3) ∧ (i + 3) < 28 + bs.length)
        · skip
          refine Road.callS (B' := bAtN2) 56 (argsL := [(.ref t), (.int (Nat.toInt32 (i + 3))), (.ref s), (.int (Nat.toInt32 m)), (.int (Nat.toInt32 (Road.decN m).length)), (.ref u)]) (rest := []) 0 bA5_d56 (wI hw 282 rfl) (wI hw 283 rfl) (wI hw 276 rfl) (wI hw 284 rfl) (by decide) (cAtN2 l Z a0 hw n0 hEW t td (i + 3) s sb u ub bs us m h0 σ Tt T U hbs hus hm (by omega) cp Hc hcp fm hfm Hf hr3) (lenOf bAtN2_pd rfl) rfl rfl rfl (by decide) (by decide) (ce' := 2) (sl' := 32) rfl rfl (by decide) (by decide) ?_
          rintro _ h_48 σ_49 m_50 ⟨rfl, K_51, l0, m0, sl0, SL⟩
          refine Road.if_eq 59 82 bA5_d59 rfl (fun q => absurd q (by decide)) (fun hc59 => ?_)
          exact J4 h_48 σ_49 l0 m0 m_50 K_51 sl0 SL
        · skip
          refine Road.callS (B' := bAt0) 56 (argsL := [(.ref t), (.int (Nat.toInt32 (i + 3))), (.ref s), (.int (Nat.toInt32 m)), (.int (Nat.toInt32 (Road.decN m).length)), (.ref u)]) (rest := []) 0 bA5_d56 (wI hw 282 rfl) (wI hw 283 rfl) (wI hw 276 rfl) (wI hw 284 rfl) (by decide) (cAt0 l Z a0 hw n0 hEW t td (i + 3) s sb u ub bs us m l1 m1 s s l3 m3 h0 σ Tt T U hbs hus hm (by omega) cp Hc hcp fm hfm Hf (fun _ => K1 (by omega)) (fun q q' => absurd ⟨q, q'⟩ hr3) (fun _ _ => K3 (by omega) (by omega))) (lenOf bAt0_pd rfl) rfl rfl rfl (by decide) (by decide) (ce' := 0) (sl' := 0) rfl rfl (by decide) (by decide) ?_
          rintro _ h_52 σ_53 m_54 ⟨rfl, rfl⟩
          refine Road.Go.weaken (σ' := σ) m_54 (Nat.le_refl _) (Nat.le_refl _) ?_
          refine Road.if_eq 59 82 bA5_d59 rfl (fun q => absurd q (by decide)) (fun hc59 => ?_)
          refine Road.aloadN 62 bA5_d62 rfl ?_
          refine Road.iloadN 63 bA5_d63 rfl ?_
          refine Road.iconst 64 (4 : Int32) bA5_d64 rfl ?_
          refine Road.iadd 65 bA5_d65 ?_
          refine Road.nameI ?_
          intro z_56 hz_56
          obtain rfl : z_56 = (Nat.toInt32 (i + 4)) := by rw [hz_56]; rw [show (4 : Int32) = Nat.toInt32 4 from rfl, Road.add32n]
          refine Road.aloadN 66 bA5_d66 rfl ?_
          refine Road.iloadN 67 bA5_d67 rfl ?_
          refine Road.iload 68 bA5_d68 rfl ?_
          refine Road.aload 70 bA5_d70 rfl ?_
          by_cases hr4 : (21 + bs.length ≤ (i + 4) ∧ (i + 4) < 28 + bs.length)
          · skip
            refine Road.callS (B' := bAtN2) 72 (argsL := [(.ref t), (.int (Nat.toInt32 (i + 4))), (.ref s), (.int (Nat.toInt32 m)), (.int (Nat.toInt32 (Road.decN m).length)), (.ref u)]) (rest := []) 0 bA5_d72 (wI hw 282 rfl) (wI hw 283 rfl) (wI hw 276 rfl) (wI hw 284 rfl) (by decide) (cAtN2 l Z a0 hw n0 hEW t td (i + 4) s sb u ub bs us m h0 σ Tt T U hbs hus hm (by omega) cp Hc hcp fm hfm Hf hr4) (lenOf bAtN2_pd rfl) rfl rfl rfl (by decide) (by decide) (ce' := 2) (sl' := 32) rfl rfl (by decide) (by decide) ?_
            rintro _ h_57 σ_58 m_59 ⟨rfl, K_60, l0, m0, sl0, SL⟩
            refine Road.if_eq 75 82 bA5_d75 rfl (fun q => absurd q (by decide)) (fun hc75 => ?_)
            exact J5 h_57 σ_58 l0 m0 m_59 K_60 sl0 SL
          · skip
            refine Road.callS (B' := bAt0) 72 (argsL := [(.ref t), (.int (Nat.toInt32 (i + 4))), (.ref s), (.int (Nat.toInt32 m)), (.int (Nat.toInt32 (Road.decN m).length)), (.ref u)]) (rest := []) 0 bA5_d72 (wI hw 282 rfl) (wI hw 283 rfl) (wI hw 276 rfl) (wI hw 284 rfl) (by decide) (cAt0 l Z a0 hw n0 hEW t td (i + 4) s sb u ub bs us m l1 m1 s s l3 m3 h0 σ Tt T U hbs hus hm (by omega) cp Hc hcp fm hfm Hf (fun _ => K1 (by omega)) (fun q q' => absurd ⟨q, q'⟩ hr4) (fun _ _ => K3 (by omega) (by omega))) (lenOf bAt0_pd rfl) rfl rfl rfl (by decide) (by decide) (ce' := 0) (sl' := 0) rfl rfl (by decide) (by decide) ?_
            rintro _ h_61 σ_62 m_63 ⟨rfl, rfl⟩
            refine Road.Go.weaken (σ' := σ) m_63 (Nat.le_refl _) (Nat.le_refl _) ?_
            refine Road.if_eq 75 82 bA5_d75 rfl (fun q => absurd q (by decide)) (fun hc75 => ?_)
            refine Road.iconst 78 (1 : Int32) bA5_d78 rfl ?_
            refine Road.goto 79 83 bA5_d79 rfl ?_
            exact Road.iret 83 1 bA5_d83 (t := .boolean) rfl (by simp) rfl (by decide) (by decide) (fun σ' m => ⟨rfl, Keep.refl _ _, Or.inr (fun j hj => by rcases (by omega : j = 0 ∨ j = 1 ∨ j = 2 ∨ j = 3 ∨ j = 4) with rfl | rfl | rfl | rfl | rfl <;> assumption)⟩)
def bA5N3 : Road.Bdy := (⟨"com/example/orderly_tasks/orderlytasks/ConsoleSettingsToStringPinLaw", "at5", "(Ljava/lang/String;ILjava/lang/String;IILjava/lang/String;)Z"⟩, method_7_code, 6, (some .boolean), { frames := 6, cells := 2, slots := 32, locals := 88 })
theorem bA5N3_pd : parseMethodDescriptor "(Ljava/lang/String;ILjava/lang/String;IILjava/lang/String;)Z" = some ⟨[(.object "java/lang/String"), .int, (.object "java/lang/String"), .int, .int, (.object "java/lang/String")], (some .boolean)⟩ := by decide +kernel
theorem bA5N3_pn : plainFor bA5N3.y = true := plainFor_of_name (show plainName "com/example/orderly_tasks/orderlytasks/ConsoleSettingsToStringPinLaw" = true from by first | (simp [plainName, overriddenIn]; done) | decide +kernel)
theorem cA5N3 (l : Launch) (Z : State) (a0 : Array Value) (hw : ∀ d ∈ tables_1, d.before a0 Z = true) (n0 : Nat) (hEW : EW Z a0 consts_1) (t td : Addr) (i : Nat) (s sb u ub : Addr) (bs us : List Int32) (m : Nat) (l1 m1 l2 m2 : Addr) (h0 : Heap) (σ : Addr → Prop) (Tt : Road.Str Z h0 t td ([67, 111, 110, 115, 111, 108, 101, 83, 101, 116, 116, 105, 110, 103, 115, 91, 98, 105, 110, 100, 61] ++ bs ++ [44, 32, 112, 111, 114, 116, 61] ++ Road.decN m ++ [44, 32, 117, 115, 101, 114, 61] ++ us ++ [93])) (T : Road.Str Z h0 s sb bs) (U : Road.Str Z h0 u ub us) (hbs : bs.length ≤ 2) (hus : us.length ≤ 2) (hm : m < 65536) (hi1 : i < 900) (cp : Int32) (Hc : Sta Z Z.heap Road.SN "COMPACT_STRINGS" "Z" (.int cp)) (hcp : ¬ cp = 0) (fm : Value) (hfm : fm.isRef = true) (Hf : Sta Z Z.heap "jdk/internal/util/Preconditions" "SIOOBE_FORMATTER" "Ljava/util/function/BiFunction;" fm) (K1 : i < 21 → (σ (Road.lm n0 8 l1) ∧ Road.Str Z h0 l1 m1 [67, 111, 110, 115, 111, 108, 101, 83, 101, 116, 116, 105, 110, 103, 115, 91, 98, 105, 110, 100, 61])) (K2 : 21 + bs.length ≤ i + 4 → i < 28 + bs.length → (σ (Road.lm n0 9 l2) ∧ Road.Str Z h0 l2 m2 [44, 32, 112, 111, 114, 116, 61])) :
    Road.Con l Z consts_1 n0 false bA5N3 [] σ #[(.ref t), (.int (Nat.toInt32 i)), (.ref s), (.int (Nat.toInt32 m)), (.int (Nat.toInt32 (Road.decN m).length)), (.ref u)] h0 (fun v h2 s2 => v = some (.int 1) ∧ Keep h0 h2 [] ∧ ((∃ l0 m0, s2 (Road.lm n0 10 l0) ∧ Road.Str Z h2 l0 m0 [44, 32, 117, 115, 101, 114, 61]) ∨ ∀ j, j < 5 → ¬ (28 + bs.length + (Road.decN m).length ≤ i + j ∧ i + j < 35 + bs.length + (Road.decN m).length))) := by
  refine Road.Con.of bA5N3_pn hEW #[.val (.ref t), .val (.int (Nat.toInt32 i)), .val (.ref s), .val (.int (Nat.toInt32 m)), .val (.int (Nat.toInt32 (Road.decN m).length)), .val (.ref u)] (fun m => Road.ent (Road.laid1 rfl (Road.laid1 rfl (Road.laid1 rfl (Road.laid1 rfl (Road.laid1 rfl (Road.laid1 rfl Road.laid0)))))) (k := 0) rfl rfl) ?_
  intro D hD
  have J5 : ∀ (h : Heap) (τ : Addr → Prop) (l0 m0 : Addr), (∀ x, σ x → τ x) → Keep h0 h [] → τ (Road.lm n0 10 l0) → Road.Str Z h l0 m0 [44, 32, 117, 115, 101, 114, 61] → Road.Go l Z a0 consts_1 n0 false bA5N3 D (fun v h2 s2 => v = some (.int 1) ∧ Keep h0 h2 [] ∧ ((∃ l0 m0, s2 (Road.lm n0 10 l0) ∧ Road.Str Z h2 l0 m0 [44, 32, 117, 115, 101, 114, 61]) ∨ ∀ j, j < 5 → ¬ (28 + bs.length + (Road.decN m).length ≤ i + j ∧ i + j < 35 + bs.length + (Road.decN m).length))) h τ 2 32 78 #[.val (.ref t), .val (.int (Nat.toInt32 i)), .val (.ref s), .val (.int (Nat.toInt32 m)), .val (.int (Nat.toInt32 (Road.decN m).length)), .val (.ref u)] [] := by
    intro h τ l0 m0 mt KK sl0 SL
    refine Road.iconst 78 (1 : Int32) bA5_d78 rfl ?_
    refine Road.goto 79 83 bA5_d79 rfl ?_
    exact Road.iret 83 1 bA5_d83 (t := .boolean) rfl (by simp) rfl (by decide) (by decide) (fun σ' m => ⟨rfl, KK, Or.inl ⟨l0, m0, m _ sl0, SL⟩⟩)
  have J4 : ∀ (h : Heap) (τ : Addr → Prop) (l0 m0 : Addr), (∀ x, σ x → τ x) → Keep h0 h [] → τ (Road.lm n0 10 l0) → Road.Str Z h l0 m0 [44, 32, 117, 115, 101, 114, 61] → Road.Go l Z a0 consts_1 n0 false bA5N3 D (fun v h2 s2 => v = some (.int 1) ∧ Keep h0 h2 [] ∧ ((∃ l0 m0, s2 (Road.lm n0 10 l0) ∧ Road.Str Z h2 l0 m0 [44, 32, 117, 115, 101, 114, 61]) ∨ ∀ j, j < 5 → ¬ (28 + bs.length + (Road.decN m).length ≤ i + j ∧ i + j < 35 + bs.length + (Road.decN m).length))) h τ 2 32 62 #[.val (.ref t), .val (.int (Nat.toInt32 i)), .val (.ref s), .val (.int (Nat.toInt32 m)), .val (.int (Nat.toInt32 (Road.decN m).length)), .val (.ref u)] [] := by
    intro h τ l0 m0 mt KK sl0 SL
    refine Road.aloadN 62 bA5_d62 rfl ?_
    refine Road.iloadN 63 bA5_d63 rfl ?_
    refine Road.iconst 64 (4 : Int32) bA5_d64 rfl ?_
    refine Road.iadd 65 bA5_d65 ?_
    refine Road.nameI ?_
    intro z_1 hz_1
    obtain rfl : z_1 = (Nat.toInt32 (i + 4)) := by rw [hz_1]; rw [show (4 : Int32) = Nat.toInt32 4 from rfl, Road.add32n]
    refine Road.aloadN 66 bA5_d66 rfl ?_
    refine Road.iloadN 67 bA5_d67 rfl ?_
    refine Road.iload 68 bA5_d68 rfl ?_
    refine Road.aload 70 bA5_d70 rfl ?_
    refine Road.callS (B' := bAt0) 72 (argsL := [(.ref t), (.int (Nat.toInt32 (i + 4))), (.ref s), (.int (Nat.toInt32 m)), (.int (Nat.toInt32 (Road.decN m).length)), (.ref u)]) (rest := []) 0 bA5_d72 (wI hw 282 rfl) (wI hw 283 rfl) (wI hw 276 rfl) (wI hw 284 rfl) (by decide) (cAt0 l Z a0 hw n0 hEW t td (i + 4) s sb u ub bs us m l1 m1 l2 m2 l0 m0 h τ (Tt.keep KK nin0 nin0) (T.keep KK nin0 nin0) (U.keep KK nin0 nin0) hbs hus hm (by omega) cp Hc hcp fm hfm Hf (fun _ => ⟨mt _ (K1 (by omega)).1, (K1 (by omega)).2.keep KK nin0 nin0⟩) (fun _ _ => ⟨mt _ (K2 (by omega) (by omega)).1, (K2 (by omega) (by omega)).2.keep KK nin0 nin0⟩) (fun _ _ => ⟨sl0, SL⟩)) (lenOf bAt0_pd rfl) rfl rfl rfl (by decide) (by decide) (ce' := 2) (sl' := 32) rfl rfl (by decide) (by decide) ?_
    rintro _ h_2 σ_3 m_4 ⟨rfl, rfl⟩
    refine Road.Go.weaken (σ' := τ) m_4 (Nat.le_refl _) (Nat.le_refl _) ?_
    refine Road.if_eq 75 82 bA5_d75 rfl (fun q => absurd q (by decide)) (fun hc75 => ?_)
    exact J5 h τ l0 m0 mt KK sl0 SL
  have J3 : ∀ (h : Heap) (τ : Addr → Prop) (l0 m0 : Addr), (∀ x, σ x → τ x) → Keep h0 h [] → τ (Road.lm n0 10 l0) → Road.Str Z h l0 m0 [44, 32, 117, 115, 101, 114, 61] → Road.Go l Z a0 consts_1 n0 false bA5N3 D (fun v h2 s2 => v = some (.int 1) ∧ Keep h0 h2 [] ∧ ((∃ l0 m0, s2 (Road.lm n0 10 l0) ∧ Road.Str Z h2 l0 m0 [44, 32, 117, 115, 101, 114, 61]) ∨ ∀ j, j < 5 → ¬ (28 + bs.length + (Road.decN m).length ≤ i + j ∧ i + j < 35 + bs.length + (Road.decN m).length))) h τ 2 32 46 #[.val (.ref t), .val (.int (Nat.toInt32 i)), .val (.ref s), .val (.int (Nat.toInt32 m)), .val (.int (Nat.toInt32 (Road.decN m).length)), .val (.ref u)] [] := by
    intro h τ l0 m0 mt KK sl0 SL
    refine Road.aloadN 46 bA5_d46 rfl ?_
    refine Road.iloadN 47 bA5_d47 rfl ?_
    refine Road.iconst 48 (3 : Int32) bA5_d48 rfl ?_
    refine Road.iadd 49 bA5_d49 ?_
    refine Road.nameI ?_
    intro z_6 hz_6
    obtain rfl : z_6 = (Nat.toInt32 (i + 3)) := by rw [hz_6]; rw [show (3 : Int32) = Nat.toInt32 3 from rfl, Road.add32n]
    refine Road.aloadN 50 bA5_d50 rfl ?_
    refine Road.iloadN 51 bA5_d51 rfl ?_
    refine Road.iload 52 bA5_d52 rfl ?_
    refine Road.aload 54 bA5_d54 rfl ?_
    refine Road.callS (B' := bAt0) 56 (argsL := [(.ref t), (.int (Nat.toInt32 (i + 3))), (.ref s), (.int (Nat.toInt32 m)), (.int (Nat.toInt32 (Road.decN m).length)), (.ref u)]) (rest := []) 0 bA5_d56 (wI hw 282 rfl) (wI hw 283 rfl) (wI hw 276 rfl) (wI hw 284 rfl) (by decide) (cAt0 l Z a0 hw n0 hEW t td (i + 3) s sb u ub bs us m l1 m1 l2 m2 l0 m0 h τ (Tt.keep KK nin0 nin0) (T.keep KK nin0 nin0) (U.keep KK nin0 nin0) hbs hus hm (by omega) cp Hc hcp fm hfm Hf (fun _ => ⟨mt _ (K1 (by omega)).1, (K1 (by omega)).2.keep KK nin0 nin0⟩) (fun _ _ => ⟨mt _ (K2 (by omega) (by omega)).1, (K2 (by omega) (by omega)).2.keep KK nin0 nin0⟩) (fun _ _ => ⟨sl0, SL⟩)) (lenOf bAt0_pd rfl) rfl rfl rfl (by decide) (by decide) (ce' := 2) (sl' := 32) rfl rfl (by decide) (by decide) ?_
    rintro _ h_7 σ_8 m_9 ⟨rfl, rfl⟩
    refine Road.Go.weaken (σ' := τ) m_9 (Nat.le_refl _) (Nat.le_refl _) ?_
    refine Road.if_eq 59 82 bA5_d59 rfl (fun q => absurd q (by decide)) (fun hc59 => ?_)
    exact J4 h τ l0 m0 mt KK sl0 SL
  have J2 : ∀ (h : Heap) (τ : Addr → Prop) (l0 m0 : Addr), (∀ x, σ x → τ x) → Keep h0 h [] → τ (Road.lm n0 10 l0) → Road.Str Z h l0 m0 [44, 32, 117, 115, 101, 114, 61] → Road.Go l Z a0 consts_1 n0 false bA5N3 D (fun v h2 s2 => v = some (.int 1) ∧ Keep h0 h2 [] ∧ ((∃ l0 m0, s2 (Road.lm n0 10 l0) ∧ Road.Str Z h2 l0 m0 [44, 32, 117, 115, 101, 114, 61]) ∨ ∀ j, j < 5 → ¬ (28 + bs.length + (Road.decN m).length ≤ i + j ∧ i + j < 35 + bs.length + (Road.decN m).length))) h τ 2 32 30 #[.val (.ref t), .val (.int (Nat.toInt32 i)), .val (.ref s), .val (.int (Nat.toInt32 m)), .val (.int (Nat.toInt32 (Road.decN m).length)), .val (.ref u)] [] := by
    intro h τ l0 m0 mt KK sl0 SL
    refine Road.aloadN 30 bA5_d30 rfl ?_
    refine Road.iloadN 31 bA5_d31 rfl ?_
    refine Road.iconst 32 (2 : Int32) bA5_d32 rfl ?_
    refine Road.iadd 33 bA5_d33 ?_
    refine Road.nameI ?_
    intro z_11 hz_11
    obtain rfl : z_11 = (Nat.toInt32 (i + 2)) := by rw [hz_11]; rw [show (2 : Int32) = Nat.toInt32 2 from rfl, Road.add32n]
    refine Road.aloadN 34 bA5_d34 rfl ?_
    refine Road.iloadN 35 bA5_d35 rfl ?_
    refine Road.iload 36 bA5_d36 rfl ?_
    refine Road.aload 38 bA5_d38 rfl ?_
    refine Road.callS (B' := bAt0) 40 (argsL := [(.ref t), (.int (Nat.toInt32 (i + 2))), (.ref s), (.int (Nat.toInt32 m)), (.int (Nat.toInt32 (Road.decN m).length)), (.ref u)]) (rest := []) 0 bA5_d40 (wI hw 282 rfl) (wI hw 283 rfl) (wI hw 276 rfl) (wI hw 284 rfl) (by decide) (cAt0 l Z a0 hw n0 hEW t td (i + 2) s sb u ub bs us m l1 m1 l2 m2 l0 m0 h τ (Tt.keep KK nin0 nin0) (T.keep KK nin0 nin0) (U.keep KK nin0 nin0) hbs hus hm (by omega) cp Hc hcp fm hfm Hf (fun _ => ⟨mt _ (K1 (by omega)).1, (K1 (by omega)).2.keep KK nin0 nin0⟩) (fun _ _ => ⟨mt _ (K2 (by omega) (by omega)).1, (K2 (by omega) (by omega)).2.keep KK nin0 nin0⟩) (fun _ _ => ⟨sl0, SL⟩)) (lenOf bAt0_pd rfl) rfl rfl rfl (by decide) (by decide) (ce' := 2) (sl' := 32) rfl rfl (by decide) (by decide) ?_
    rintro _ h_12 σ_13 m_14 ⟨rfl, rfl⟩
    refine Road.Go.weaken (σ' := τ) m_14 (Nat.le_refl _) (Nat.le_refl _) ?_
    refine Road.if_eq 43 82 bA5_d43 rfl (fun q => absurd q (by decide)) (fun hc43 => ?_)
    exact J3 h τ l0 m0 mt KK sl0 SL
  have J1 : ∀ (h : Heap) (τ : Addr → Prop) (l0 m0 : Addr), (∀ x, σ x → τ x) → Keep h0 h [] → τ (Road.lm n0 10 l0) → Road.Str Z h l0 m0 [44, 32, 117, 115, 101, 114, 61] → Road.Go l Z a0 consts_1 n0 false bA5N3 D (fun v h2 s2 => v = some (.int 1) ∧ Keep h0 h2 [] ∧ ((∃ l0 m0, s2 (Road.lm n0 10 l0) ∧ Road.Str Z h2 l0 m0 [44, 32, 117, 115, 101, 114, 61]) ∨ ∀ j, j < 5 → ¬ (28 + bs.length + (Road.decN m).length ≤ i + j ∧ i + j < 35 + bs.length + (Road.decN m).length))) h τ 2 32 14 #[.val (.ref t), .val (.int (Nat.toInt32 i)), .val (.ref s), .val (.int (Nat.toInt32 m)), .val (.int (Nat.toInt32 (Road.decN m).length)), .val (.ref u)] [] := by
    intro h τ l0 m0 mt KK sl0 SL
    refine Road.aloadN 14 bA5_d14 rfl ?_
    refine Road.iloadN 15 bA5_d15 rfl ?_
    refine Road.iconst 16 (1 : Int32) bA5_d16 rfl ?_
    refine Road.iadd 17 bA5_d17 ?_
    refine Road.nameI ?_
    intro z_16 hz_16
    obtain rfl : z_16 = (Nat.toInt32 (i + 1)) := by rw [hz_16]; rw [show (1 : Int32) = Nat.toInt32 1 from rfl, Road.add32n]
    refine Road.aloadN 18 bA5_d18 rfl ?_
    refine Road.iloadN 19 bA5_d19 rfl ?_
    refine Road.iload 20 bA5_d20 rfl ?_
    refine Road.aload 22 bA5_d22 rfl ?_
    refine Road.callS (B' := bAt0) 24 (argsL := [(.ref t), (.int (Nat.toInt32 (i + 1))), (.ref s), (.int (Nat.toInt32 m)), (.int (Nat.toInt32 (Road.decN m).length)), (.ref u)]) (rest := []) 0 bA5_d24 (wI hw 282 rfl) (wI hw 283 rfl) (wI hw 276 rfl) (wI hw 284 rfl) (by decide) (cAt0 l Z a0 hw n0 hEW t td (i + 1) s sb u ub bs us m l1 m1 l2 m2 l0 m0 h τ (Tt.keep KK nin0 nin0) (T.keep KK nin0 nin0) (U.keep KK nin0 nin0) hbs hus hm (by omega) cp Hc hcp fm hfm Hf (fun _ => ⟨mt _ (K1 (by omega)).1, (K1 (by omega)).2.keep KK nin0 nin0⟩) (fun _ _ => ⟨mt _ (K2 (by omega) (by omega)).1, (K2 (by omega) (by omega)).2.keep KK nin0 nin0⟩) (fun _ _ => ⟨sl0, SL⟩)) (lenOf bAt0_pd rfl) rfl rfl rfl (by decide) (by decide) (ce' := 2) (sl' := 32) rfl rfl (by decide) (by decide) ?_
    rintro _ h_17 σ_18 m_19 ⟨rfl, rfl⟩
    refine Road.Go.weaken (σ' := τ) m_19 (Nat.le_refl _) (Nat.le_refl _) ?_
    refine Road.if_eq 27 82 bA5_d27 rfl (fun q => absurd q (by decide)) (fun hc27 => ?_)
    exact J2 h τ l0 m0 mt KK sl0 SL
  refine Road.aloadN 0 bA5_d0 rfl ?_
  refine Road.iloadN 1 bA5_d1 rfl ?_
  refine Road.aloadN 2 bA5_d2 rfl ?_
  refine Road.iloadN 3 bA5_d3 rfl ?_
  refine Road.iload 4 bA5_d4 rfl ?_
  refine Road.aload 6 bA5_d6 rfl ?_
  by_cases hr0 : (28 + bs.length + (Road.decN m).length ≤ i ∧ i < 35 + bs.length + (Road.decN m).length)
  · skip
    refine Road.callS (B' := bAtN3) 8 (argsL := [(.ref t), (.int (Nat.toInt32 i)), (.ref s), (.int (Nat.toInt32 m)), (.int (Nat.toInt32 (Road.decN m).length)), (.ref u)]) (rest := []) 0 bA5_d8 (wI hw 282 rfl) (wI hw 283 rfl) (wI hw 276 rfl) (wI hw 284 rfl) (by decide) (cAtN3 l Z a0 hw n0 hEW t td i s sb u ub bs us m h0 σ Tt T U hbs hus hm (by omega) cp Hc hcp fm hfm Hf hr0) (lenOf bAtN3_pd rfl) rfl rfl rfl (by decide) (by decide) (ce' := 2) (sl' := 32) rfl rfl (by decide) (by decide) ?_
    rintro _ h_21 σ_22 m_23 ⟨rfl, K_24, l0, m0, sl0, SL⟩
    refine Road.if_eq 11 82 bA5_d11 rfl (fun q => absurd q (by decide)) (fun hc11 => ?_)
    exact J1 h_21 σ_22 l0 m0 m_23 K_24 sl0 SL
  · skip
    refine Road.callS (B' := bAt0) 8 (argsL := [(.ref t), (.int (Nat.toInt32 i)), (.ref s), (.int (Nat.toInt32 m)), (.int (Nat.toInt32 (Road.decN m).length)), (.ref u)]) (rest := []) 0 bA5_d8 (wI hw 282 rfl) (wI hw 283 rfl) (wI hw 276 rfl) (wI hw 284 rfl) (by decide) (cAt0 l Z a0 hw n0 hEW t td i s sb u ub bs us m l1 m1 l2 m2 s s h0 σ Tt T U hbs hus hm (by omega) cp Hc hcp fm hfm Hf (fun _ => K1 (by omega)) (fun _ _ => K2 (by omega) (by omega)) (fun q q' => absurd ⟨q, q'⟩ hr0)) (lenOf bAt0_pd rfl) rfl rfl rfl (by decide) (by decide) (ce' := 0) (sl' := 0) rfl rfl (by decide) (by decide) ?_
    rintro _ h_25 σ_26 m_27 ⟨rfl, rfl⟩
    refine Road.Go.weaken (σ' := σ) m_27 (Nat.le_refl _) (Nat.le_refl _) ?_
    refine Road.if_eq 11 82 bA5_d11 rfl (fun q => absurd q (by decide)) (fun hc11 => ?_)
    refine Road.aloadN 14 bA5_d14 rfl ?_
    refine Road.iloadN 15 bA5_d15 rfl ?_
    refine Road.iconst 16 (1 : Int32) bA5_d16 rfl ?_
    refine Road.iadd 17 bA5_d17 ?_
    refine Road.nameI ?_
    intro z_29 hz_29
    obtain rfl : z_29 = (Nat.toInt32 (i + 1)) := by rw [hz_29]; rw [show (1 : Int32) = Nat.toInt32 1 from rfl, Road.add32n]
    refine Road.aloadN 18 bA5_d18 rfl ?_
    refine Road.iloadN 19 bA5_d19 rfl ?_
    refine Road.iload 20 bA5_d20 rfl ?_
    refine Road.aload 22 bA5_d22 rfl ?_
    by_cases hr1 : (28 + bs.length + (Road.decN m).length ≤ (i + 1) ∧ (i + 1) < 35 + bs.length + (Road.decN m).length)
    · skip
      refine Road.callS (B' := bAtN3) 24 (argsL := [(.ref t), (.int (Nat.toInt32 (i + 1))), (.ref s), (.int (Nat.toInt32 m)), (.int (Nat.toInt32 (Road.decN m).length)), (.ref u)]) (rest := []) 0 bA5_d24 (wI hw 282 rfl) (wI hw 283 rfl) (wI hw 276 rfl) (wI hw 284 rfl) (by decide) (cAtN3 l Z a0 hw n0 hEW t td (i + 1) s sb u ub bs us m h0 σ Tt T U hbs hus hm (by omega) cp Hc hcp fm hfm Hf hr1) (lenOf bAtN3_pd rfl) rfl rfl rfl (by decide) (by decide) (ce' := 2) (sl' := 32) rfl rfl (by decide) (by decide) ?_
      rintro _ h_30 σ_31 m_32 ⟨rfl, K_33, l0, m0, sl0, SL⟩
      refine Road.if_eq 27 82 bA5_d27 rfl (fun q => absurd q (by decide)) (fun hc27 => ?_)
      exact J2 h_30 σ_31 l0 m0 m_32 K_33 sl0 SL
    · skip
      refine Road.callS (B' := bAt0) 24 (argsL := [(.ref t), (.int (Nat.toInt32 (i + 1))), (.ref s), (.int (Nat.toInt32 m)), (.int (Nat.toInt32 (Road.decN m).length)), (.ref u)]) (rest := []) 0 bA5_d24 (wI hw 282 rfl) (wI hw 283 rfl) (wI hw 276 rfl) (wI hw 284 rfl) (by decide) (cAt0 l Z a0 hw n0 hEW t td (i + 1) s sb u ub bs us m l1 m1 l2 m2 s s h0 σ Tt T U hbs hus hm (by omega) cp Hc hcp fm hfm Hf (fun _ => K1 (by omega)) (fun _ _ => K2 (by omega) (by omega)) (fun q q' => absurd ⟨q, q'⟩ hr1)) (lenOf bAt0_pd rfl) rfl rfl rfl (by decide) (by decide) (ce' := 0) (sl' := 0) rfl rfl (by decide) (by decide) ?_
      rintro _ h_34 σ_35 m_36 ⟨rfl, rfl⟩
      refine Road.Go.weaken (σ' := σ) m_36 (Nat.le_refl _) (Nat.le_refl _) ?_
      refine Road.if_eq 27 82 bA5_d27 rfl (fun q => absurd q (by decide)) (fun hc27 => ?_)
      refine Road.aloadN 30 bA5_d30 rfl ?_
      refine Road.iloadN 31 bA5_d31 rfl ?_
      refine Road.iconst 32 (2 : Int32) bA5_d32 rfl ?_
      refine Road.iadd 33 bA5_d33 ?_
      refine Road.nameI ?_
      intro z_38 hz_38
      obtain rfl : z_38 = (Nat.toInt32 (i + 2)) := by rw [hz_38]; rw [show (2 : Int32) = Nat.toInt32 2 from rfl, Road.add32n]
      refine Road.aloadN 34 bA5_d34 rfl ?_
      refine Road.iloadN 35 bA5_d35 rfl ?_
      refine Road.iload 36 bA5_d36 rfl ?_
      refine Road.aload 38 bA5_d38 rfl ?_
      by_cases hr2 : (28 + bs.length + (Road.decN m).length ≤ (i + 2) ∧ (i + 2) < 35 + bs.length + (Road.decN m).length)
      · skip
        refine Road.callS (B' := bAtN3) 40 (argsL := [(.ref t), (.int (Nat.toInt32 (i + 2))), (.ref s), (.int (Nat.toInt32 m)), (.int (Nat.toInt32 (Road.decN m).length)), (.ref u)]) (rest := []) 0 bA5_d40 (wI hw 282 rfl) (wI hw 283 rfl) (wI hw 276 rfl) (wI hw 284 rfl) (by decide) (cAtN3 l Z a0 hw n0 hEW t td (i + 2) s sb u ub bs us m h0 σ Tt T U hbs hus hm (by omega) cp Hc hcp fm hfm Hf hr2) (lenOf bAtN3_pd rfl) rfl rfl rfl (by decide) (by decide) (ce' := 2) (sl' := 32) rfl rfl (by decide) (by decide) ?_
        rintro _ h_39 σ_40 m_41 ⟨rfl, K_42, l0, m0, sl0, SL⟩
        refine Road.if_eq 43 82 bA5_d43 rfl (fun q => absurd q (by decide)) (fun hc43 => ?_)
        exact J3 h_39 σ_40 l0 m0 m_41 K_42 sl0 SL
      · skip
        refine Road.callS (B' := bAt0) 40 (argsL := [(.ref t), (.int (Nat.toInt32 (i + 2))), (.ref s), (.int (Nat.toInt32 m)), (.int (Nat.toInt32 (Road.decN m).length)), (.ref u)]) (rest := []) 0 bA5_d40 (wI hw 282 rfl) (wI hw 283 rfl) (wI hw 276 rfl) (wI hw 284 rfl) (by decide) (cAt0 l Z a0 hw n0 hEW t td (i + 2) s sb u ub bs us m l1 m1 l2 m2 s s h0 σ Tt T U hbs hus hm (by omega) cp Hc hcp fm hfm Hf (fun _ => K1 (by omega)) (fun _ _ => K2 (by omega) (by omega)) (fun q q' => absurd ⟨q, q'⟩ hr2)) (lenOf bAt0_pd rfl) rfl rfl rfl (by decide) (by decide) (ce' := 0) (sl' := 0) rfl rfl (by decide) (by decide) ?_
        rintro _ h_43 σ_44 m_45 ⟨rfl, rfl⟩
        refine Road.Go.weaken (σ' := σ) m_45 (Nat.le_refl _) (Nat.le_refl _) ?_
        refine Road.if_eq 43 82 bA5_d43 rfl (fun q => absurd q (by decide)) (fun hc43 => ?_)
        refine Road.aloadN 46 bA5_d46 rfl ?_
        refine Road.iloadN 47 bA5_d47 rfl ?_
        refine Road.iconst 48 (3 : Int32) bA5_d48 rfl ?_
        refine Road.iadd 49 bA5_d49 ?_
        refine Road.nameI ?_
        intro z_47 hz_47
        obtain rfl : z_47 = (Nat.toInt32 (i + 3)) := by rw [hz_47]; rw [show (3 : Int32) = Nat.toInt32 3 from rfl, Road.add32n]
        refine Road.aloadN 50 bA5_d50 rfl ?_
        refine Road.iloadN 51 bA5_d51 rfl ?_
        refine Road.iload 52 bA5_d52 rfl ?_
        refine Road.aload 54 bA5_d54 rfl ?_
        by_cases hr3 : (28 + bs.length + (Road.decN m).length ≤ (i + 3) ∧ (i + 3) < 35 + bs.length + (Road.decN m).length)
        · skip
          refine Road.callS (B' := bAtN3) 56 (argsL := [(.ref t), (.int (Nat.toInt32 (i + 3))), (.ref s), (.int (Nat.toInt32 m)), (.int (Nat.toInt32 (Road.decN m).length)), (.ref u)]) (rest := []) 0 bA5_d56 (wI hw 282 rfl) (wI hw 283 rfl) (wI hw 276 rfl) (wI hw 284 rfl) (by decide) (cAtN3 l Z a0 hw n0 hEW t td (i + 3) s sb u ub bs us m h0 σ Tt T U hbs hus hm (by omega) cp Hc hcp fm hfm Hf hr3) (lenOf bAtN3_pd rfl) rfl rfl rfl (by decide) (by decide) (ce' := 2) (sl' := 32) rfl rfl (by decide) (by decide) ?_
          rintro _ h_48 σ_49 m_50 ⟨rfl, K_51, l0, m0, sl0, SL⟩
          refine Road.if_eq 59 82 bA5_d59 rfl (fun q => absurd q (by decide)) (fun hc59 => ?_)
          exact J4 h_48 σ_49 l0 m0 m_50 K_51 sl0 SL
        · skip
          refine Road.callS (B' := bAt0) 56 (argsL := [(.ref t), (.int (Nat.toInt32 (i + 3))), (.ref s), (.int (Nat.toInt32 m)), (.int (Nat.toInt32 (Road.decN m).length)), (.ref u)]) (rest := []) 0 bA5_d56 (wI hw 282 rfl) (wI hw 283 rfl) (wI hw 276 rfl) (wI hw 284 rfl) (by decide) (cAt0 l Z a0 hw n0 hEW t td (i + 3) s sb u ub bs us m l1 m1 l2 m2 s s h0 σ Tt T U hbs hus hm (by omega) cp Hc hcp fm hfm Hf (fun _ => K1 (by omega)) (fun _ _ => K2 (by omega) (by omega)) (fun q q' => absurd ⟨q, q'⟩ hr3)) (lenOf bAt0_pd rfl) rfl rfl rfl (by decide) (by decide) (ce' := 0) (sl' := 0) rfl rfl (by decide) (by decide) ?_
          rintro _ h_52 σ_53 m_54 ⟨rfl, rfl⟩
          refine Road.Go.weaken (σ' := σ) m_54 (Nat.le_refl _) (Nat.le_refl _) ?_
          refine Road.if_eq 59 82 bA5_d59 rfl (fun q => absurd q (by decide)) (fun hc59 => ?_)
          refine Road.aloadN 62 bA5_d62 rfl ?_
          refine Road.iloadN 63 bA5_d63 rfl ?_
          refine Road.iconst 64 (4 : Int32) bA5_d64 rfl ?_
          refine Road.iadd 65 bA5_d65 ?_
          refine Road.nameI ?_
          intro z_56 hz_56
          obtain rfl : z_56 = (Nat.toInt32 (i + 4)) := by rw [hz_56]; rw [show (4 : Int32) = Nat.toInt32 4 from rfl, Road.add32n]
          refine Road.aloadN 66 bA5_d66 rfl ?_
          refine Road.iloadN 67 bA5_d67 rfl ?_
          refine Road.iload 68 bA5_d68 rfl ?_
          refine Road.aload 70 bA5_d70 rfl ?_
          by_cases hr4 : (28 + bs.length + (Road.decN m).length ≤ (i + 4) ∧ (i + 4) < 35 + bs.length + (Road.decN m).length)
          · skip
            refine Road.callS (B' := bAtN3) 72 (argsL := [(.ref t), (.int (Nat.toInt32 (i + 4))), (.ref s), (.int (Nat.toInt32 m)), (.int (Nat.toInt32 (Road.decN m).length)), (.ref u)]) (rest := []) 0 bA5_d72 (wI hw 282 rfl) (wI hw 283 rfl) (wI hw 276 rfl) (wI hw 284 rfl) (by decide) (cAtN3 l Z a0 hw n0 hEW t td (i + 4) s sb u ub bs us m h0 σ Tt T U hbs hus hm (by omega) cp Hc hcp fm hfm Hf hr4) (lenOf bAtN3_pd rfl) rfl rfl rfl (by decide) (by decide) (ce' := 2) (sl' := 32) rfl rfl (by decide) (by decide) ?_
            rintro _ h_57 σ_58 m_59 ⟨rfl, K_60, l0, m0, sl0, SL⟩
            refine Road.if_eq 75 82 bA5_d75 rfl (fun q => absurd q (by decide)) (fun hc75 => ?_)
            exact J5 h_57 σ_58 l0 m0 m_59 K_60 sl0 SL
          · skip
            refine Road.callS (B' := bAt0) 72 (argsL := [(.ref t), (.int (Nat.toInt32 (i + 4))), (.ref s), (.int (Nat.toInt32 m)), (.int (Nat.toInt32 (Road.decN m).length)), (.ref u)]) (rest := []) 0 bA5_d72 (wI hw 282 rfl) (wI hw 283 rfl) (wI hw 276 rfl) (wI hw 284 rfl) (by decide) (cAt0 l Z a0 hw n0 hEW t td (i + 4) s sb u ub bs us m l1 m1 l2 m2 s s h0 σ Tt T U hbs hus hm (by omega) cp Hc hcp fm hfm Hf (fun _ => K1 (by omega)) (fun _ _ => K2 (by omega) (by omega)) (fun q q' => absurd ⟨q, q'⟩ hr4)) (lenOf bAt0_pd rfl) rfl rfl rfl (by decide) (by decide) (ce' := 0) (sl' := 0) rfl rfl (by decide) (by decide) ?_
            rintro _ h_61 σ_62 m_63 ⟨rfl, rfl⟩
            refine Road.Go.weaken (σ' := σ) m_63 (Nat.le_refl _) (Nat.le_refl _) ?_
            refine Road.if_eq 75 82 bA5_d75 rfl (fun q => absurd q (by decide)) (fun hc75 => ?_)
            refine Road.iconst 78 (1 : Int32) bA5_d78 rfl ?_
            refine Road.goto 79 83 bA5_d79 rfl ?_
            exact Road.iret 83 1 bA5_d83 (t := .boolean) rfl (by simp) rfl (by decide) (by decide) (fun σ' m => ⟨rfl, Keep.refl _ _, Or.inr (fun j hj => by rcases (by omega : j = 0 ∨ j = 1 ∨ j = 2 ∨ j = 3 ∨ j = 4) with rfl | rfl | rfl | rfl | rfl <;> assumption)⟩)
def b0 : Road.Bdy := (x, code, maxLocals, ret, room_1)
theorem b0_d0 : decode b0.bs 0 = .ok (.iload_n 0, 1) := at_0
theorem b0_d1 : decode b0.bs 1 = .ok (.ldc 7, 2) := at_1
theorem b0_d3 : decode b0.bs 3 = .ok (.iand, 1) := at_3
theorem b0_d4 : decode b0.bs 4 = .ok (.ldc 8, 2) := at_4
theorem b0_d6 : decode b0.bs 6 = .ok (.irem, 1) := at_6
theorem b0_d7 : decode b0.bs 7 = .ok (.istore 6, 2) := at_7
theorem b0_d9 : decode b0.bs 9 = .ok (.bipush 33, 2) := at_9
theorem b0_d11 : decode b0.bs 11 = .ok (.iload_n 1, 1) := at_11
theorem b0_d12 : decode b0.bs 12 = .ok (.ldc 7, 2) := at_12
theorem b0_d14 : decode b0.bs 14 = .ok (.iand, 1) := at_14
theorem b0_d15 : decode b0.bs 15 = .ok (.sipush 223, 3) := at_15
theorem b0_d18 : decode b0.bs 18 = .ok (.irem, 1) := at_18
theorem b0_d19 : decode b0.bs 19 = .ok (.iadd, 1) := at_19
theorem b0_d20 : decode b0.bs 20 = .ok (.i2c, 1) := at_20
theorem b0_d21 : decode b0.bs 21 = .ok (.istore 7, 2) := at_21
theorem b0_d23 : decode b0.bs 23 = .ok (.iload_n 2, 1) := at_23
theorem b0_d24 : decode b0.bs 24 = .ok (.sipush 255, 3) := at_24
theorem b0_d27 : decode b0.bs 27 = .ok (.iand, 1) := at_27
theorem b0_d28 : decode b0.bs 28 = .ok (.i2c, 1) := at_28
theorem b0_d29 : decode b0.bs 29 = .ok (.istore 8, 2) := at_29
theorem b0_d31 : decode b0.bs 31 = .ok (.iload_n 3, 1) := at_31
theorem b0_d32 : decode b0.bs 32 = .ok (.sipush 255, 3) := at_32
theorem b0_d35 : decode b0.bs 35 = .ok (.iand, 1) := at_35
theorem b0_d36 : decode b0.bs 36 = .ok (.i2c, 1) := at_36
theorem b0_d37 : decode b0.bs 37 = .ok (.istore 9, 2) := at_37
theorem b0_d39 : decode b0.bs 39 = .ok (.iload 4, 2) := at_39
theorem b0_d41 : decode b0.bs 41 = .ok (.sipush 255, 3) := at_41
theorem b0_d44 : decode b0.bs 44 = .ok (.iand, 1) := at_44
theorem b0_d45 : decode b0.bs 45 = .ok (.i2c, 1) := at_45
theorem b0_d46 : decode b0.bs 46 = .ok (.istore 10, 2) := at_46
theorem b0_d48 : decode b0.bs 48 = .ok (.iconst 2, 1) := at_48
theorem b0_d49 : decode b0.bs 49 = .ok (.newarray .char, 2) := at_49
theorem b0_d51 : decode b0.bs 51 = .ok (.dup, 1) := at_51
theorem b0_d52 : decode b0.bs 52 = .ok (.iconst 0, 1) := at_52
theorem b0_d53 : decode b0.bs 53 = .ok (.iload 7, 2) := at_53
theorem b0_d55 : decode b0.bs 55 = .ok (.castore, 1) := at_55
theorem b0_d56 : decode b0.bs 56 = .ok (.dup, 1) := at_56
theorem b0_d57 : decode b0.bs 57 = .ok (.iconst 1, 1) := at_57
theorem b0_d58 : decode b0.bs 58 = .ok (.iload 8, 2) := at_58
theorem b0_d60 : decode b0.bs 60 = .ok (.castore, 1) := at_60
theorem b0_d61 : decode b0.bs 61 = .ok (.astore 11, 2) := at_61
theorem b0_d63 : decode b0.bs 63 = .ok (.iconst 2, 1) := at_63
theorem b0_d64 : decode b0.bs 64 = .ok (.newarray .char, 2) := at_64
theorem b0_d66 : decode b0.bs 66 = .ok (.dup, 1) := at_66
theorem b0_d67 : decode b0.bs 67 = .ok (.iconst 0, 1) := at_67
theorem b0_d68 : decode b0.bs 68 = .ok (.iload 9, 2) := at_68
theorem b0_d70 : decode b0.bs 70 = .ok (.castore, 1) := at_70
theorem b0_d71 : decode b0.bs 71 = .ok (.dup, 1) := at_71
theorem b0_d72 : decode b0.bs 72 = .ok (.iconst 1, 1) := at_72
theorem b0_d73 : decode b0.bs 73 = .ok (.iload 10, 2) := at_73
theorem b0_d75 : decode b0.bs 75 = .ok (.castore, 1) := at_75
theorem b0_d76 : decode b0.bs 76 = .ok (.astore 12, 2) := at_76
theorem b0_d78 : decode b0.bs 78 = .ok (.iload 5, 2) := at_78
theorem b0_d80 : decode b0.bs 80 = .ok (.iconst 1, 1) := at_80
theorem b0_d81 : decode b0.bs 81 = .ok (.iand, 1) := at_81
theorem b0_d82 : decode b0.bs 82 = .ok (.ifCond .eq 15, 3) := at_82
theorem b0_d85 : decode b0.bs 85 = .ok (.new 9, 3) := at_85
theorem b0_d88 : decode b0.bs 88 = .ok (.dup, 1) := at_88
theorem b0_d89 : decode b0.bs 89 = .ok (.aload 11, 2) := at_89
theorem b0_d91 : decode b0.bs 91 = .ok (.invokespecial 11, 3) := at_91
theorem b0_d94 : decode b0.bs 94 = .ok (.goto 8, 3) := at_94
theorem b0_d97 : decode b0.bs 97 = .ok (.iload 7, 2) := at_97
theorem b0_d99 : decode b0.bs 99 = .ok (.invokestatic 14, 3) := at_99
theorem b0_d102 : decode b0.bs 102 = .ok (.astore 13, 2) := at_102
theorem b0_d104 : decode b0.bs 104 = .ok (.iload 5, 2) := at_104
theorem b0_d106 : decode b0.bs 106 = .ok (.iconst 2, 1) := at_106
theorem b0_d107 : decode b0.bs 107 = .ok (.iand, 1) := at_107
theorem b0_d108 : decode b0.bs 108 = .ok (.ifCond .eq 15, 3) := at_108
theorem b0_d111 : decode b0.bs 111 = .ok (.new 9, 3) := at_111
theorem b0_d114 : decode b0.bs 114 = .ok (.dup, 1) := at_114
theorem b0_d115 : decode b0.bs 115 = .ok (.aload 12, 2) := at_115
theorem b0_d117 : decode b0.bs 117 = .ok (.invokespecial 11, 3) := at_117
theorem b0_d120 : decode b0.bs 120 = .ok (.goto 8, 3) := at_120
theorem b0_d123 : decode b0.bs 123 = .ok (.iload 9, 2) := at_123
theorem b0_d125 : decode b0.bs 125 = .ok (.invokestatic 14, 3) := at_125
theorem b0_d128 : decode b0.bs 128 = .ok (.astore 14, 2) := at_128
theorem b0_d130 : decode b0.bs 130 = .ok (.new 18, 3) := at_130
theorem b0_d133 : decode b0.bs 133 = .ok (.dup, 1) := at_133
theorem b0_d134 : decode b0.bs 134 = .ok (.aload 13, 2) := at_134
theorem b0_d136 : decode b0.bs 136 = .ok (.iload 6, 2) := at_136
theorem b0_d138 : decode b0.bs 138 = .ok (.aload 14, 2) := at_138
theorem b0_d140 : decode b0.bs 140 = .ok (.ldc 20, 2) := at_140
theorem b0_d142 : decode b0.bs 142 = .ok (.invokespecial 22, 3) := at_142
theorem b0_d145 : decode b0.bs 145 = .ok (.astore 15, 2) := at_145
theorem b0_d147 : decode b0.bs 147 = .ok (.aload 15, 2) := at_147
theorem b0_d149 : decode b0.bs 149 = .ok (.invokevirtual 25, 3) := at_149
theorem b0_d152 : decode b0.bs 152 = .ok (.astore 16, 2) := at_152
theorem b0_d154 : decode b0.bs 154 = .ok (.iload 6, 2) := at_154
theorem b0_d156 : decode b0.bs 156 = .ok (.invokestatic 29, 3) := at_156
theorem b0_d159 : decode b0.bs 159 = .ok (.istore 17, 2) := at_159
theorem b0_d161 : decode b0.bs 161 = .ok (.aload 16, 2) := at_161
theorem b0_d163 : decode b0.bs 163 = .ok (.invokevirtual 35, 3) := at_163
theorem b0_d166 : decode b0.bs 166 = .ok (.bipush 36, 2) := at_166
theorem b0_d168 : decode b0.bs 168 = .ok (.aload 13, 2) := at_168
theorem b0_d170 : decode b0.bs 170 = .ok (.invokevirtual 35, 3) := at_170
theorem b0_d173 : decode b0.bs 173 = .ok (.iadd, 1) := at_173
theorem b0_d174 : decode b0.bs 174 = .ok (.iload 17, 2) := at_174
theorem b0_d176 : decode b0.bs 176 = .ok (.iadd, 1) := at_176
theorem b0_d177 : decode b0.bs 177 = .ok (.aload 14, 2) := at_177
theorem b0_d179 : decode b0.bs 179 = .ok (.invokevirtual 35, 3) := at_179
theorem b0_d182 : decode b0.bs 182 = .ok (.iadd, 1) := at_182
theorem b0_d183 : decode b0.bs 183 = .ok (.if_icmp .eq 5, 3) := at_183
theorem b0_d186 : decode b0.bs 186 = .ok (.iconst 0, 1) := at_186
theorem b0_d187 : decode b0.bs 187 = .ok (.ireturn, 1) := at_187
theorem b0_d188 : decode b0.bs 188 = .ok (.aload 16, 2) := at_188
theorem b0_d190 : decode b0.bs 190 = .ok (.iconst 0, 1) := at_190
theorem b0_d191 : decode b0.bs 191 = .ok (.aload 13, 2) := at_191
theorem b0_d193 : decode b0.bs 193 = .ok (.iload 6, 2) := at_193
theorem b0_d195 : decode b0.bs 195 = .ok (.iload 17, 2) := at_195
theorem b0_d197 : decode b0.bs 197 = .ok (.aload 14, 2) := at_197
theorem b0_d199 : decode b0.bs 199 = .ok (.invokestatic 39, 3) := at_199
theorem b0_d202 : decode b0.bs 202 = .ok (.ifCond .eq 150, 3) := at_202
theorem b0_d205 : decode b0.bs 205 = .ok (.aload 16, 2) := at_205
theorem b0_d207 : decode b0.bs 207 = .ok (.iconst 5, 1) := at_207
theorem b0_d208 : decode b0.bs 208 = .ok (.aload 13, 2) := at_208
theorem b0_d210 : decode b0.bs 210 = .ok (.iload 6, 2) := at_210
theorem b0_d212 : decode b0.bs 212 = .ok (.iload 17, 2) := at_212
theorem b0_d214 : decode b0.bs 214 = .ok (.aload 14, 2) := at_214
theorem b0_d216 : decode b0.bs 216 = .ok (.invokestatic 39, 3) := at_216
theorem b0_d219 : decode b0.bs 219 = .ok (.ifCond .eq 133, 3) := at_219
theorem b0_d222 : decode b0.bs 222 = .ok (.aload 16, 2) := at_222
theorem b0_d224 : decode b0.bs 224 = .ok (.bipush 10, 2) := at_224
theorem b0_d226 : decode b0.bs 226 = .ok (.aload 13, 2) := at_226
theorem b0_d228 : decode b0.bs 228 = .ok (.iload 6, 2) := at_228
theorem b0_d230 : decode b0.bs 230 = .ok (.iload 17, 2) := at_230
theorem b0_d232 : decode b0.bs 232 = .ok (.aload 14, 2) := at_232
theorem b0_d234 : decode b0.bs 234 = .ok (.invokestatic 39, 3) := at_234
theorem b0_d237 : decode b0.bs 237 = .ok (.ifCond .eq 115, 3) := at_237
theorem b0_d240 : decode b0.bs 240 = .ok (.aload 16, 2) := at_240
theorem b0_d242 : decode b0.bs 242 = .ok (.bipush 15, 2) := at_242
theorem b0_d244 : decode b0.bs 244 = .ok (.aload 13, 2) := at_244
theorem b0_d246 : decode b0.bs 246 = .ok (.iload 6, 2) := at_246
theorem b0_d248 : decode b0.bs 248 = .ok (.iload 17, 2) := at_248
theorem b0_d250 : decode b0.bs 250 = .ok (.aload 14, 2) := at_250
theorem b0_d252 : decode b0.bs 252 = .ok (.invokestatic 39, 3) := at_252
theorem b0_d255 : decode b0.bs 255 = .ok (.ifCond .eq 97, 3) := at_255
theorem b0_d258 : decode b0.bs 258 = .ok (.aload 16, 2) := at_258
theorem b0_d260 : decode b0.bs 260 = .ok (.bipush 20, 2) := at_260
theorem b0_d262 : decode b0.bs 262 = .ok (.aload 13, 2) := at_262
theorem b0_d264 : decode b0.bs 264 = .ok (.iload 6, 2) := at_264
theorem b0_d266 : decode b0.bs 266 = .ok (.iload 17, 2) := at_266
theorem b0_d268 : decode b0.bs 268 = .ok (.aload 14, 2) := at_268
theorem b0_d270 : decode b0.bs 270 = .ok (.invokestatic 39, 3) := at_270
theorem b0_d273 : decode b0.bs 273 = .ok (.ifCond .eq 79, 3) := at_273
theorem b0_d276 : decode b0.bs 276 = .ok (.aload 16, 2) := at_276
theorem b0_d278 : decode b0.bs 278 = .ok (.bipush 25, 2) := at_278
theorem b0_d280 : decode b0.bs 280 = .ok (.aload 13, 2) := at_280
theorem b0_d282 : decode b0.bs 282 = .ok (.iload 6, 2) := at_282
theorem b0_d284 : decode b0.bs 284 = .ok (.iload 17, 2) := at_284
theorem b0_d286 : decode b0.bs 286 = .ok (.aload 14, 2) := at_286
theorem b0_d288 : decode b0.bs 288 = .ok (.invokestatic 39, 3) := at_288
theorem b0_d291 : decode b0.bs 291 = .ok (.ifCond .eq 61, 3) := at_291
theorem b0_d294 : decode b0.bs 294 = .ok (.aload 16, 2) := at_294
theorem b0_d296 : decode b0.bs 296 = .ok (.bipush 30, 2) := at_296
theorem b0_d298 : decode b0.bs 298 = .ok (.aload 13, 2) := at_298
theorem b0_d300 : decode b0.bs 300 = .ok (.iload 6, 2) := at_300
theorem b0_d302 : decode b0.bs 302 = .ok (.iload 17, 2) := at_302
theorem b0_d304 : decode b0.bs 304 = .ok (.aload 14, 2) := at_304
theorem b0_d306 : decode b0.bs 306 = .ok (.invokestatic 39, 3) := at_306
theorem b0_d309 : decode b0.bs 309 = .ok (.ifCond .eq 43, 3) := at_309
theorem b0_d312 : decode b0.bs 312 = .ok (.aload 16, 2) := at_312
theorem b0_d314 : decode b0.bs 314 = .ok (.bipush 35, 2) := at_314
theorem b0_d316 : decode b0.bs 316 = .ok (.aload 13, 2) := at_316
theorem b0_d318 : decode b0.bs 318 = .ok (.iload 6, 2) := at_318
theorem b0_d320 : decode b0.bs 320 = .ok (.iload 17, 2) := at_320
theorem b0_d322 : decode b0.bs 322 = .ok (.aload 14, 2) := at_322
theorem b0_d324 : decode b0.bs 324 = .ok (.invokestatic 39, 3) := at_324
theorem b0_d327 : decode b0.bs 327 = .ok (.ifCond .eq 25, 3) := at_327
theorem b0_d330 : decode b0.bs 330 = .ok (.aload 16, 2) := at_330
theorem b0_d332 : decode b0.bs 332 = .ok (.bipush 40, 2) := at_332
theorem b0_d334 : decode b0.bs 334 = .ok (.aload 13, 2) := at_334
theorem b0_d336 : decode b0.bs 336 = .ok (.iload 6, 2) := at_336
theorem b0_d338 : decode b0.bs 338 = .ok (.iload 17, 2) := at_338
theorem b0_d340 : decode b0.bs 340 = .ok (.aload 14, 2) := at_340
theorem b0_d342 : decode b0.bs 342 = .ok (.invokestatic 39, 3) := at_342
theorem b0_d345 : decode b0.bs 345 = .ok (.ifCond .eq 7, 3) := at_345
theorem b0_d348 : decode b0.bs 348 = .ok (.iconst 1, 1) := at_348
theorem b0_d349 : decode b0.bs 349 = .ok (.goto 4, 3) := at_349
theorem b0_d352 : decode b0.bs 352 = .ok (.iconst 0, 1) := at_352
theorem b0_d353 : decode b0.bs 353 = .ok (.ireturn, 1) := at_353
theorem b0_pd : parseMethodDescriptor "(IIIIII)Z" = some ⟨[.int, .int, .int, .int, .int, .int], (some .boolean)⟩ := by decide +kernel
theorem b0_pn : plainFor b0.y = true := plainFor_of_name (show plainName "com/example/orderly_tasks/orderlytasks/ConsoleSettingsToStringPinLaw" = true from by first | (simp [plainName, overriddenIn]; done) | decide +kernel)
set_option maxHeartbeats 4000000 in
theorem law (l : Launch) (Z : State) (a0 : Array Value) (hw : ∀ d ∈ tables_1, d.before a0 Z = true) (n0 : Nat) (hEW : EW Z a0 consts_1) (p0 p1 p2 p3 p4 p5 : Int32) (h0 : Heap) (σ : Addr → Prop) (cp : Int32) (Hc : Sta Z Z.heap Road.SN "COMPACT_STRINGS" "Z" (.int cp)) (hcp : ¬ cp = 0) (fm : Value) (hfm : fm.isRef = true) (Hf : Sta Z Z.heap "jdk/internal/util/Preconditions" "SIOOBE_FORMATTER" "Ljava/util/function/BiFunction;" fm) (o1 o2 : Addr) (HO : Sta Z Z.heap "java/lang/Integer" "DigitOnes" "[B" (.ref o1)) (AO : Road.Ary Z Z.heap o1 .byte Road.OnesL) (HT : Sta Z Z.heap "java/lang/Integer" "DigitTens" "[B" (.ref o2)) (AT : Road.Ary Z Z.heap o2 .byte Road.TensL) (ci oA : Addr) (Ei : Exa Z Z.heap ci "java/lang/CharacterDataLatin1") (Hi : Sta Z Z.heap "java/lang/CharacterDataLatin1" "instance" "Ljava/lang/CharacterDataLatin1;" (.ref ci)) (HA : Sta Z Z.heap "java/lang/CharacterDataLatin1" "A" "[I" (.ref oA)) (AA : Road.Ary Z Z.heap oA .int (AL.map .int)) (ws : List Jvm.Cond) :
    Road.Con l Z consts_1 n0 false b0 ws σ #[(.int p0), (.int p1), (.int p2), (.int p3), (.int p4), (.int p5)] h0 (fun v h2 _ => v = some (.int 1)) := by
  refine Road.Con.of b0_pn hEW #[.val (.int p0), .val (.int p1), .val (.int p2), .val (.int p3), .val (.int p4), .val (.int p5), .unset, .unset, .unset, .unset, .unset, .unset, .unset, .unset, .unset, .unset, .unset, .unset] (fun m => Road.ent (Road.laid1 rfl (Road.laid1 rfl (Road.laid1 rfl (Road.laid1 rfl (Road.laid1 rfl (Road.laid1 rfl Road.laid0)))))) (k := 12) rfl rfl) ?_
  intro D hD
  have wS : ∀ d ∈ Bundle.stringAtoms, d.before a0 Z = true := fun d hd => hw d ((by decide +kernel : ∀ d ∈ Bundle.stringAtoms, d ∈ tables_1) d hd)
  refine Road.iloadN 0 b0_d0 rfl ?_
  refine Road.ldcI 1 (v := (2147483647 : Int32)) b0_d1 (wI hw 0 rfl) ?_
  refine Road.iand 3 b0_d3 ?_
  refine Road.ldcI 4 (v := (65536 : Int32)) b0_d4 (wI hw 1 rfl) ?_
  refine Road.irem 6 b0_d6 (by decide) ?_
  obtain ⟨m, hm, em⟩ := Road.rem_nn p0 65536 65536 rfl (by decide)
  refine Road.nameI ?_
  intro z_1 hz_1
  obtain rfl : z_1 = (Nat.toInt32 m) := by rw [hz_1]; exact em
  refine Road.istore 7 #[.val (.int p0), .val (.int p1), .val (.int p2), .val (.int p3), .val (.int p4), .val (.int p5), .val (.int (Nat.toInt32 m)), .unset, .unset, .unset, .unset, .unset, .unset, .unset, .unset, .unset, .unset, .unset] b0_d7 rfl ?_
  refine Road.bipush 9 (33 : Int32) b0_d9 rfl ?_
  refine Road.iloadN 11 b0_d11 rfl ?_
  refine Road.ldcI 12 (v := (2147483647 : Int32)) b0_d12 (wI hw 0 rfl) ?_
  refine Road.iand 14 b0_d14 ?_
  refine Road.sipush 15 (223 : Int32) b0_d15 rfl ?_
  refine Road.irem 18 b0_d18 (by decide) ?_
  obtain ⟨j0, hj0, ej⟩ := Road.rem_nn p1 223 223 rfl (by decide)
  refine Road.nameI ?_
  intro z_2 hz_2
  obtain rfl : z_2 = (Nat.toInt32 j0) := by rw [hz_2]; exact ej
  refine Road.iadd 19 b0_d19 ?_
  refine Road.i2c 20 b0_d20 ?_
  refine Road.nameI ?_
  intro z_3 hz_3
  obtain rfl : z_3 = (Nat.toInt32 (33 + j0)) := by rw [hz_3]; rw [show (33 : Int32) = Nat.toInt32 33 from rfl, Road.add32n]; exact Road.chr_nat (by omega)
  refine Road.nameI ?_
  intro c0 hc0
  have lat0 : 0 ≤ c0.toInt ∧ c0.toInt < 256 := by rw [hc0, Road.n32 (by omega)]; omega
  refine Road.istore 21 #[.val (.int p0), .val (.int p1), .val (.int p2), .val (.int p3), .val (.int p4), .val (.int p5), .val (.int (Nat.toInt32 m)), .val (.int c0), .unset, .unset, .unset, .unset, .unset, .unset, .unset, .unset, .unset, .unset] b0_d21 rfl ?_
  refine Road.iloadN 23 b0_d23 rfl ?_
  refine Road.sipush 24 (255 : Int32) b0_d24 rfl ?_
  refine Road.iand 27 b0_d27 ?_
  refine Road.i2c 28 b0_d28 ?_
  refine Road.nameI ?_
  intro c1 hc1
  have lat1 : 0 ≤ c1.toInt ∧ c1.toInt < 256 := by rw [hc1]; exact Road.and255 _
  clear hc1
  refine Road.istore 29 #[.val (.int p0), .val (.int p1), .val (.int p2), .val (.int p3), .val (.int p4), .val (.int p5), .val (.int (Nat.toInt32 m)), .val (.int c0), .val (.int c1), .unset, .unset, .unset, .unset, .unset, .unset, .unset, .unset, .unset] b0_d29 rfl ?_
  refine Road.iloadN 31 b0_d31 rfl ?_
  refine Road.sipush 32 (255 : Int32) b0_d32 rfl ?_
  refine Road.iand 35 b0_d35 ?_
  refine Road.i2c 36 b0_d36 ?_
  refine Road.nameI ?_
  intro c2 hc2
  have lat2 : 0 ≤ c2.toInt ∧ c2.toInt < 256 := by rw [hc2]; exact Road.and255 _
  clear hc2
  refine Road.istore 37 #[.val (.int p0), .val (.int p1), .val (.int p2), .val (.int p3), .val (.int p4), .val (.int p5), .val (.int (Nat.toInt32 m)), .val (.int c0), .val (.int c1), .val (.int c2), .unset, .unset, .unset, .unset, .unset, .unset, .unset, .unset] b0_d37 rfl ?_
  refine Road.iload 39 b0_d39 rfl ?_
  refine Road.sipush 41 (255 : Int32) b0_d41 rfl ?_
  refine Road.iand 44 b0_d44 ?_
  refine Road.i2c 45 b0_d45 ?_
  refine Road.nameI ?_
  intro c3 hc3
  have lat3 : 0 ≤ c3.toInt ∧ c3.toInt < 256 := by rw [hc3]; exact Road.and255 _
  clear hc3
  have hd5 := Road.decN_le 4 m (by omega)
  have hd1 := Road.decN_pos m
  have hdn : Road.dec (Nat.toInt32 m) = Road.decN m := Road.dec_nat (by omega)
  refine Road.istore 46 #[.val (.int p0), .val (.int p1), .val (.int p2), .val (.int p3), .val (.int p4), .val (.int p5), .val (.int (Nat.toInt32 m)), .val (.int c0), .val (.int c1), .val (.int c2), .val (.int c3), .unset, .unset, .unset, .unset, .unset, .unset, .unset] b0_d46 rfl ?_
  have J330 : ∀ (h : Heap) (τ : Addr → Prop) (ar br s sb u ub o t td : Addr) (cs us : List Int32) (l1 m1 l2 m2 l3 m3 : Addr), Road.Str Z h t td ([67, 111, 110, 115, 111, 108, 101, 83, 101, 116, 116, 105, 110, 103, 115, 91, 98, 105, 110, 100, 61] ++ (c0 :: cs) ++ [44, 32, 112, 111, 114, 116, 61] ++ Road.decN m ++ [44, 32, 117, 115, 101, 114, 61] ++ us ++ [93]) → Road.Str Z h s sb (c0 :: cs) → Road.Str Z h u ub us → cs.length ≤ 1 → us.length ≤ 2 → τ (Road.lm n0 8 l1) → Road.Str Z h l1 m1 [67, 111, 110, 115, 111, 108, 101, 83, 101, 116, 116, 105, 110, 103, 115, 91, 98, 105, 110, 100, 61] → τ (Road.lm n0 9 l2) → Road.Str Z h l2 m2 [44, 32, 112, 111, 114, 116, 61] → τ (Road.lm n0 10 l3) → Road.Str Z h l3 m3 [44, 32, 117, 115, 101, 114, 61] → Road.Go l Z a0 consts_1 n0 false b0 D (fun v h2 _ => v = some (.int 1)) h τ 42 1411 330 #[.val (.int p0), .val (.int p1), .val (.int p2), .val (.int p3), .val (.int p4), .val (.int p5), .val (.int (Nat.toInt32 m)), .val (.int c0), .val (.int c1), .val (.int c2), .val (.int c3), .val (.ref ar), .val (.ref br), .val (.ref s), .val (.ref u), .val (.ref o), .val (.ref t), .val (.int (Nat.toInt32 (Road.decN m).length))] [] := by
    intro h τ ar br s sb u ub o t td cs us l1 m1 l2 m2 l3 m3 Tt T U hcs hus kq1 SL1 kq2 SL2 kq3 SL3
    refine Road.aload 330 b0_d330 rfl ?_
    refine Road.bipush 332 (40 : Int32) b0_d332 rfl ?_
    refine Road.aload 334 b0_d334 rfl ?_
    refine Road.iload 336 b0_d336 rfl ?_
    refine Road.iload 338 b0_d338 rfl ?_
    refine Road.aload 340 b0_d340 rfl ?_
    refine Road.callS (B' := bA5) 342 (argsL := [(.ref t), (.int (Nat.toInt32 40)), (.ref s), (.int (Nat.toInt32 m)), (.int (Nat.toInt32 (Road.decN m).length)), (.ref u)]) (rest := []) 0 b0_d342 (wI hw 279 rfl) (wI hw 280 rfl) (wI hw 276 rfl) (wI hw 281 rfl) (by decide) (cA5 l Z a0 hw n0 hEW t td 40 s sb u ub (c0 :: cs) us m l1 m1 l2 m2 l3 m3 h τ Tt T U (by simp only [List.length_cons]; omega) hus hm (by decide) cp Hc hcp fm hfm Hf (fun _ => ⟨kq1, SL1⟩) (fun _ _ => ⟨kq2, SL2⟩) (fun _ _ => ⟨kq3, SL3⟩)) (lenOf bA5_pd rfl) rfl rfl rfl (by decide) (by decide) (ce' := 42) (sl' := 1411) rfl rfl (by decide) (by decide) ?_
    rintro _ h_4 σ_5 m_6 ⟨rfl, rfl⟩
    refine Road.Go.weaken (σ' := τ) m_6 (Nat.le_refl _) (Nat.le_refl _) ?_
    refine Road.if_eq 345 352 b0_d345 rfl (fun q => absurd q (by decide)) (fun hc345 => ?_)
    refine Road.iconst 348 (1 : Int32) b0_d348 rfl ?_
    refine Road.goto 349 353 b0_d349 rfl ?_
    exact Road.iret 353 1 b0_d353 (t := .boolean) rfl (by simp) rfl (by decide) (by decide) (fun σ' m => rfl)
  have J188 : ∀ (h : Heap) (τ : Addr → Prop) (ar br s sb u ub o t td : Addr) (cs us : List Int32), Road.Str Z h t td ([67, 111, 110, 115, 111, 108, 101, 83, 101, 116, 116, 105, 110, 103, 115, 91, 98, 105, 110, 100, 61] ++ (c0 :: cs) ++ [44, 32, 112, 111, 114, 116, 61] ++ Road.decN m ++ [44, 32, 117, 115, 101, 114, 61] ++ us ++ [93]) → Road.Str Z h s sb (c0 :: cs) → Road.Str Z h u ub us → cs.length ≤ 1 → us.length ≤ 2 → Road.Go l Z a0 consts_1 n0 false b0 D (fun v h2 _ => v = some (.int 1)) h τ 34 1059 188 #[.val (.int p0), .val (.int p1), .val (.int p2), .val (.int p3), .val (.int p4), .val (.int p5), .val (.int (Nat.toInt32 m)), .val (.int c0), .val (.int c1), .val (.int c2), .val (.int c3), .val (.ref ar), .val (.ref br), .val (.ref s), .val (.ref u), .val (.ref o), .val (.ref t), .val (.int (Nat.toInt32 (Road.decN m).length))] [] := by
    intro h τ ar br s sb u ub o t td cs us Tt T U hcs hus
    refine Road.aload 188 b0_d188 rfl ?_
    refine Road.iconst 190 (0 : Int32) b0_d190 rfl ?_
    refine Road.aload 191 b0_d191 rfl ?_
    refine Road.iload 193 b0_d193 rfl ?_
    refine Road.iload 195 b0_d195 rfl ?_
    refine Road.aload 197 b0_d197 rfl ?_
    refine Road.callS (B' := bA5N1) 199 (argsL := [(.ref t), (.int (Nat.toInt32 0)), (.ref s), (.int (Nat.toInt32 m)), (.int (Nat.toInt32 (Road.decN m).length)), (.ref u)]) (rest := []) 0 b0_d199 (wI hw 279 rfl) (wI hw 280 rfl) (wI hw 276 rfl) (wI hw 281 rfl) (by decide) (cA5N1 l Z a0 hw n0 hEW t td 0 s sb u ub (c0 :: cs) us m s s s s h τ Tt T U (by simp only [List.length_cons]; omega) hus hm (by decide) cp Hc hcp fm hfm Hf (fun q q' => by exfalso; simp only [List.length_cons] at q q'; omega) (fun q q' => by exfalso; simp only [List.length_cons] at q q'; omega)) (lenOf bA5N1_pd rfl) rfl rfl rfl (by decide) (by decide) (ce' := 36) (sl' := 1147) rfl rfl (by decide) (by decide) ?_
    rintro _ h_8 σ_9 m_10 ⟨rfl, K_11, hkn⟩
    replace Tt := Tt.keep K_11 nin0 nin0
    replace T := T.keep K_11 nin0 nin0
    replace U := U.keep K_11 nin0 nin0
    refine Road.if_eq 202 352 b0_d202 rfl (fun q => absurd q (by decide)) (fun hc202 => ?_)
    replace hkn := hkn.resolve_right (fun q => q 0 (by decide) (by decide))
    obtain ⟨l1, m1, kq1, SL1⟩ := hkn
    refine Road.aload 205 b0_d205 rfl ?_
    refine Road.iconst 207 (5 : Int32) b0_d207 rfl ?_
    refine Road.aload 208 b0_d208 rfl ?_
    refine Road.iload 210 b0_d210 rfl ?_
    refine Road.iload 212 b0_d212 rfl ?_
    refine Road.aload 214 b0_d214 rfl ?_
    refine Road.callS (B' := bA5) 216 (argsL := [(.ref t), (.int (Nat.toInt32 5)), (.ref s), (.int (Nat.toInt32 m)), (.int (Nat.toInt32 (Road.decN m).length)), (.ref u)]) (rest := []) 0 b0_d216 (wI hw 279 rfl) (wI hw 280 rfl) (wI hw 276 rfl) (wI hw 281 rfl) (by decide) (cA5 l Z a0 hw n0 hEW t td 5 s sb u ub (c0 :: cs) us m l1 m1 s s s s h_8 σ_9 Tt T U (by simp only [List.length_cons]; omega) hus hm (by decide) cp Hc hcp fm hfm Hf (fun _ => ⟨kq1, SL1⟩) (fun q q' => by exfalso; simp only [List.length_cons] at q q'; omega) (fun q q' => by exfalso; simp only [List.length_cons] at q q'; omega)) (lenOf bA5_pd rfl) rfl rfl rfl (by decide) (by decide) (ce' := 36) (sl' := 1147) rfl rfl (by decide) (by decide) ?_
    rintro _ h_12 σ_13 m_14 ⟨rfl, rfl⟩
    refine Road.Go.weaken (σ' := σ_9) m_14 (Nat.le_refl _) (Nat.le_refl _) ?_
    refine Road.if_eq 219 352 b0_d219 rfl (fun q => absurd q (by decide)) (fun hc219 => ?_)
    refine Road.aload 222 b0_d222 rfl ?_
    refine Road.bipush 224 (10 : Int32) b0_d224 rfl ?_
    refine Road.aload 226 b0_d226 rfl ?_
    refine Road.iload 228 b0_d228 rfl ?_
    refine Road.iload 230 b0_d230 rfl ?_
    refine Road.aload 232 b0_d232 rfl ?_
    refine Road.callS (B' := bA5) 234 (argsL := [(.ref t), (.int (Nat.toInt32 10)), (.ref s), (.int (Nat.toInt32 m)), (.int (Nat.toInt32 (Road.decN m).length)), (.ref u)]) (rest := []) 0 b0_d234 (wI hw 279 rfl) (wI hw 280 rfl) (wI hw 276 rfl) (wI hw 281 rfl) (by decide) (cA5 l Z a0 hw n0 hEW t td 10 s sb u ub (c0 :: cs) us m l1 m1 s s s s h_8 σ_9 Tt T U (by simp only [List.length_cons]; omega) hus hm (by decide) cp Hc hcp fm hfm Hf (fun _ => ⟨kq1, SL1⟩) (fun q q' => by exfalso; simp only [List.length_cons] at q q'; omega) (fun q q' => by exfalso; simp only [List.length_cons] at q q'; omega)) (lenOf bA5_pd rfl) rfl rfl rfl (by decide) (by decide) (ce' := 36) (sl' := 1147) rfl rfl (by decide) (by decide) ?_
    rintro _ h_16 σ_17 m_18 ⟨rfl, rfl⟩
    refine Road.Go.weaken (σ' := σ_9) m_18 (Nat.le_refl _) (Nat.le_refl _) ?_
    refine Road.if_eq 237 352 b0_d237 rfl (fun q => absurd q (by decide)) (fun hc237 => ?_)
    refine Road.aload 240 b0_d240 rfl ?_
    refine Road.bipush 242 (15 : Int32) b0_d242 rfl ?_
    refine Road.aload 244 b0_d244 rfl ?_
    refine Road.iload 246 b0_d246 rfl ?_
    refine Road.iload 248 b0_d248 rfl ?_
    refine Road.aload 250 b0_d250 rfl ?_
    refine Road.callS (B' := bA5) 252 (argsL := [(.ref t), (.int (Nat.toInt32 15)), (.ref s), (.int (Nat.toInt32 m)), (.int (Nat.toInt32 (Road.decN m).length)), (.ref u)]) (rest := []) 0 b0_d252 (wI hw 279 rfl) (wI hw 280 rfl) (wI hw 276 rfl) (wI hw 281 rfl) (by decide) (cA5 l Z a0 hw n0 hEW t td 15 s sb u ub (c0 :: cs) us m l1 m1 s s s s h_8 σ_9 Tt T U (by simp only [List.length_cons]; omega) hus hm (by decide) cp Hc hcp fm hfm Hf (fun _ => ⟨kq1, SL1⟩) (fun q q' => by exfalso; simp only [List.length_cons] at q q'; omega) (fun q q' => by exfalso; simp only [List.length_cons] at q q'; omega)) (lenOf bA5_pd rfl) rfl rfl rfl (by decide) (by decide) (ce' := 36) (sl' := 1147) rfl rfl (by decide) (by decide) ?_
    rintro _ h_20 σ_21 m_22 ⟨rfl, rfl⟩
    refine Road.Go.weaken (σ' := σ_9) m_22 (Nat.le_refl _) (Nat.le_refl _) ?_
    refine Road.if_eq 255 352 b0_d255 rfl (fun q => absurd q (by decide)) (fun hc255 => ?_)
    refine Road.aload 258 b0_d258 rfl ?_
    refine Road.bipush 260 (20 : Int32) b0_d260 rfl ?_
    refine Road.aload 262 b0_d262 rfl ?_
    refine Road.iload 264 b0_d264 rfl ?_
    refine Road.iload 266 b0_d266 rfl ?_
    refine Road.aload 268 b0_d268 rfl ?_
    refine Road.callS (B' := bA5N2) 270 (argsL := [(.ref t), (.int (Nat.toInt32 20)), (.ref s), (.int (Nat.toInt32 m)), (.int (Nat.toInt32 (Road.decN m).length)), (.ref u)]) (rest := []) 0 b0_d270 (wI hw 279 rfl) (wI hw 280 rfl) (wI hw 276 rfl) (wI hw 281 rfl) (by decide) (cA5N2 l Z a0 hw n0 hEW t td 20 s sb u ub (c0 :: cs) us m l1 m1 s s h_8 σ_9 Tt T U (by simp only [List.length_cons]; omega) hus hm (by decide) cp Hc hcp fm hfm Hf (fun _ => ⟨kq1, SL1⟩) (fun q q' => by exfalso; simp only [List.length_cons] at q q'; omega)) (lenOf bA5N2_pd rfl) rfl rfl rfl (by decide) (by decide) (ce' := 38) (sl' := 1179) rfl rfl (by decide) (by decide) ?_
    rintro _ h_24 σ_25 m_26 ⟨rfl, K_27, hkn⟩
    replace Tt := Tt.keep K_27 nin0 nin0
    replace T := T.keep K_27 nin0 nin0
    replace U := U.keep K_27 nin0 nin0
    replace SL1 := SL1.keep K_27 nin0 nin0
    replace kq1 := m_26 _ kq1
    refine Road.if_eq 273 352 b0_d273 rfl (fun q => absurd q (by decide)) (fun hc273 => ?_)
    replace hkn := hkn.resolve_right (fun q => q 3 (by decide) (by simp only [List.length_cons]; omega))
    obtain ⟨l2, m2, kq2, SL2⟩ := hkn
    refine Road.aload 276 b0_d276 rfl ?_
    refine Road.bipush 278 (25 : Int32) b0_d278 rfl ?_
    refine Road.aload 280 b0_d280 rfl ?_
    refine Road.iload 282 b0_d282 rfl ?_
    refine Road.iload 284 b0_d284 rfl ?_
    refine Road.aload 286 b0_d286 rfl ?_
    refine Road.callS (B' := bA5) 288 (argsL := [(.ref t), (.int (Nat.toInt32 25)), (.ref s), (.int (Nat.toInt32 m)), (.int (Nat.toInt32 (Road.decN m).length)), (.ref u)]) (rest := []) 0 b0_d288 (wI hw 279 rfl) (wI hw 280 rfl) (wI hw 276 rfl) (wI hw 281 rfl) (by decide) (cA5 l Z a0 hw n0 hEW t td 25 s sb u ub (c0 :: cs) us m l1 m1 l2 m2 s s h_24 σ_25 Tt T U (by simp only [List.length_cons]; omega) hus hm (by decide) cp Hc hcp fm hfm Hf (fun _ => ⟨kq1, SL1⟩) (fun _ _ => ⟨kq2, SL2⟩) (fun q q' => by exfalso; simp only [List.length_cons] at q q'; omega)) (lenOf bA5_pd rfl) rfl rfl rfl (by decide) (by decide) (ce' := 38) (sl' := 1179) rfl rfl (by decide) (by decide) ?_
    rintro _ h_28 σ_29 m_30 ⟨rfl, rfl⟩
    refine Road.Go.weaken (σ' := σ_25) m_30 (Nat.le_refl _) (Nat.le_refl _) ?_
    refine Road.if_eq 291 352 b0_d291 rfl (fun q => absurd q (by decide)) (fun hc291 => ?_)
    refine Road.aload 294 b0_d294 rfl ?_
    refine Road.bipush 296 (30 : Int32) b0_d296 rfl ?_
    refine Road.aload 298 b0_d298 rfl ?_
    refine Road.iload 300 b0_d300 rfl ?_
    refine Road.iload 302 b0_d302 rfl ?_
    refine Road.aload 304 b0_d304 rfl ?_
    refine Road.callS (B' := bA5N3) 306 (argsL := [(.ref t), (.int (Nat.toInt32 30)), (.ref s), (.int (Nat.toInt32 m)), (.int (Nat.toInt32 (Road.decN m).length)), (.ref u)]) (rest := []) 0 b0_d306 (wI hw 279 rfl) (wI hw 280 rfl) (wI hw 276 rfl) (wI hw 281 rfl) (by decide) (cA5N3 l Z a0 hw n0 hEW t td 30 s sb u ub (c0 :: cs) us m l1 m1 l2 m2 h_24 σ_25 Tt T U (by simp only [List.length_cons]; omega) hus hm (by decide) cp Hc hcp fm hfm Hf (fun _ => ⟨kq1, SL1⟩) (fun _ _ => ⟨kq2, SL2⟩)) (lenOf bA5N3_pd rfl) rfl rfl rfl (by decide) (by decide) (ce' := 40) (sl' := 1211) rfl rfl (by decide) (by decide) ?_
    rintro _ h_32 σ_33 m_34 ⟨rfl, K_35, hkn⟩
    replace Tt := Tt.keep K_35 nin0 nin0
    replace T := T.keep K_35 nin0 nin0
    replace U := U.keep K_35 nin0 nin0
    replace SL1 := SL1.keep K_35 nin0 nin0
    replace SL2 := SL2.keep K_35 nin0 nin0
    replace kq1 := m_34 _ kq1
    replace kq2 := m_34 _ kq2
    refine Road.if_eq 309 352 b0_d309 rfl (fun q => absurd q (by decide)) (fun hc309 => ?_)
    rcases hkn with hkn | hno
    · skip
      obtain ⟨l3, m3, kq3, SL3⟩ := hkn
      refine Road.aload 312 b0_d312 rfl ?_
      refine Road.bipush 314 (35 : Int32) b0_d314 rfl ?_
      refine Road.aload 316 b0_d316 rfl ?_
      refine Road.iload 318 b0_d318 rfl ?_
      refine Road.iload 320 b0_d320 rfl ?_
      refine Road.aload 322 b0_d322 rfl ?_
      refine Road.callS (B' := bA5) 324 (argsL := [(.ref t), (.int (Nat.toInt32 35)), (.ref s), (.int (Nat.toInt32 m)), (.int (Nat.toInt32 (Road.decN m).length)), (.ref u)]) (rest := []) 0 b0_d324 (wI hw 279 rfl) (wI hw 280 rfl) (wI hw 276 rfl) (wI hw 281 rfl) (by decide) (cA5 l Z a0 hw n0 hEW t td 35 s sb u ub (c0 :: cs) us m l1 m1 l2 m2 l3 m3 h_32 σ_33 Tt T U (by simp only [List.length_cons]; omega) hus hm (by decide) cp Hc hcp fm hfm Hf (fun _ => ⟨kq1, SL1⟩) (fun _ _ => ⟨kq2, SL2⟩) (fun _ _ => ⟨kq3, SL3⟩)) (lenOf bA5_pd rfl) rfl rfl rfl (by decide) (by decide) (ce' := 40) (sl' := 1211) rfl rfl (by decide) (by decide) ?_
      rintro _ h_36 σ_37 m_38 ⟨rfl, rfl⟩
      refine Road.Go.weaken (σ' := σ_33) m_38 (Nat.le_refl _) (Nat.le_refl _) ?_
      refine Road.if_eq 327 352 b0_d327 rfl (fun q => absurd q (by decide)) (fun hc327 => ?_)
      exact Road.Go.weaken (σ' := σ_33) (fun _ q => q) (ce' := 42) (sl' := 1411) (by decide) (by decide) (J330 h_32 σ_33 ar br s sb u ub o t td cs us l1 m1 l2 m2 l3 m3 Tt T U hcs hus kq1 SL1 kq2 SL2 kq3 SL3)
    · skip
      have hn4 := hno 4 (by decide)
      simp only [List.length_cons] at hn4
      refine Road.aload 312 b0_d312 rfl ?_
      refine Road.bipush 314 (35 : Int32) b0_d314 rfl ?_
      refine Road.aload 316 b0_d316 rfl ?_
      refine Road.iload 318 b0_d318 rfl ?_
      refine Road.iload 320 b0_d320 rfl ?_
      refine Road.aload 322 b0_d322 rfl ?_
      refine Road.callS (B' := bA5N3) 324 (argsL := [(.ref t), (.int (Nat.toInt32 35)), (.ref s), (.int (Nat.toInt32 m)), (.int (Nat.toInt32 (Road.decN m).length)), (.ref u)]) (rest := []) 0 b0_d324 (wI hw 279 rfl) (wI hw 280 rfl) (wI hw 276 rfl) (wI hw 281 rfl) (by decide) (cA5N3 l Z a0 hw n0 hEW t td 35 s sb u ub (c0 :: cs) us m l1 m1 l2 m2 h_32 σ_33 Tt T U (by simp only [List.length_cons]; omega) hus hm (by decide) cp Hc hcp fm hfm Hf (fun _ => ⟨kq1, SL1⟩) (fun _ _ => ⟨kq2, SL2⟩)) (lenOf bA5N3_pd rfl) rfl rfl rfl (by decide) (by decide) (ce' := 42) (sl' := 1243) rfl rfl (by decide) (by decide) ?_
      rintro _ h_40 σ_41 m_42 ⟨rfl, K_43, hkn⟩
      replace Tt := Tt.keep K_43 nin0 nin0
      replace T := T.keep K_43 nin0 nin0
      replace U := U.keep K_43 nin0 nin0
      replace SL1 := SL1.keep K_43 nin0 nin0
      replace SL2 := SL2.keep K_43 nin0 nin0
      replace kq1 := m_42 _ kq1
      replace kq2 := m_42 _ kq2
      refine Road.if_eq 327 352 b0_d327 rfl (fun q => absurd q (by decide)) (fun hc327 => ?_)
      replace hkn := hkn.resolve_right (fun q => q 0 (by decide) (by simp only [List.length_cons]; omega))
      obtain ⟨l3, m3, kq3, SL3⟩ := hkn
      exact Road.Go.weaken (σ' := σ_41) (fun _ q => q) (ce' := 42) (sl' := 1411) (by decide) (by decide) (J330 h_40 σ_41 ar br s sb u ub o t td cs us l1 m1 l2 m2 l3 m3 Tt T U hcs hus kq1 SL1 kq2 SL2 kq3 SL3)
  have J130 : ∀ (h : Heap) (τ : Addr → Prop) (ar br s sb u ub : Addr) (cs us : List Int32), Road.Str Z h s sb (c0 :: cs) → Road.Str Z h u ub us → cs.length ≤ 1 → us.length ≤ 2 → us ≠ [] → Road.Go l Z a0 consts_1 n0 false b0 D (fun v h2 _ => v = some (.int 1)) h τ 6 16 130 #[.val (.int p0), .val (.int p1), .val (.int p2), .val (.int p3), .val (.int p4), .val (.int p5), .val (.int (Nat.toInt32 m)), .val (.int c0), .val (.int c1), .val (.int c2), .val (.int c3), .val (.ref ar), .val (.ref br), .val (.ref s), .val (.ref u), .unset, .unset, .unset] [] := by
    intro h τ ar br s sb u ub cs us T U hcs hus hune
    refine Road.new 130 "com/example/orderly_tasks/orderlytasks/ConsoleSettings" b0_d130 (wI hw 32 rfl) (wI hw 33 rfl) (wI hw 34 rfl) (ce' := 7) (sl' := 20) rfl rfl (by decide) (by decide) ?_
    intro o h_44 σ_45 g_46 K_47 lt_48 m_49 s_50 Eo D_51 M_52
    have ne_s_o : s ≠ o := Nat.ne_of_lt (Nat.lt_of_lt_of_le T.lt (Nat.le_of_eq g_46.symm))
    have ne_sb_o : sb ≠ o := Nat.ne_of_lt (Nat.lt_of_lt_of_le T.ltb (Nat.le_of_eq g_46.symm))
    have ne_u_o : u ≠ o := Nat.ne_of_lt (Nat.lt_of_lt_of_le U.lt (Nat.le_of_eq g_46.symm))
    have ne_ub_o : ub ≠ o := Nat.ne_of_lt (Nat.lt_of_lt_of_le U.ltb (Nat.le_of_eq g_46.symm))
    replace T := T.keep K_47 nin0 nin0
    replace U := U.keep K_47 nin0 nin0
    have F1 := D_51 (Or.inr (wI hw 122 rfl)) (ty := (.object "java/lang/String")) (by decide)
    have F2 := D_51 (Or.inr (wI hw 124 rfl)) (ty := .int) (by decide)
    have F3 := D_51 (Or.inr (wI hw 126 rfl)) (ty := (.object "java/lang/String")) (by decide)
    have F4 := D_51 (Or.inr (wI hw 128 rfl)) (ty := (.object "java/lang/String")) (by decide)
    refine Road.dup 133 b0_d133 ?_
    refine Road.aload 134 b0_d134 rfl ?_
    refine Road.iload 136 b0_d136 rfl ?_
    refine Road.aload 138 b0_d138 rfl ?_
    refine Road.ldcS 140 "abcdefghijkl" [(97 : Int32), (98 : Int32), (99 : Int32), (100 : Int32), (101 : Int32), (102 : Int32), (103 : Int32), (104 : Int32), (105 : Int32), (106 : Int32), (107 : Int32), (108 : Int32)] 48 b0_d140 (wI hw 35 rfl) wS (List.mem_of_getElem? (i := 7) rfl) (by decide) (by decide +kernel) (by decide) (by decide) (by decide) (ce' := 9) (sl' := 72) rfl rfl (by decide) (by decide) ?_
    intro pw pwb h_53 σ_54 K_55 m_56 Pw q_57 mk_58
    replace s_50 := m_56 _ s_50 Eo.lt
    replace T := T.keep K_55 nin0 nin0
    replace U := U.keep K_55 nin0 nin0
    replace Eo := Eo.keep K_55
    replace F1 := F1.keep K_55 nin0
    replace F2 := F2.keep K_55 nin0
    replace F3 := F3.keep K_55 nin0
    replace F4 := F4.keep K_55 nin0
    have ne_o_pw : o ≠ pw := (q_57 o s_50).1
    have ne_o_pwb : o ≠ pwb := (q_57 o s_50).2
    refine Road.callI (B' := bCsI) (a := o) 142 (argsL := [(.ref s), (.int (Nat.toInt32 m)), (.ref u), (.ref pw)]) (rest := [(.ref o)]) 1 b0_d142 (wI hw 38 rfl) (wI hw 39 rfl) (wI hw 34 rfl) (wI hw 40 rfl) rfl rfl (by decide) (cCsI l Z a0 hw n0 hEW o s sb u ub pw pwb c0 (Nat.toInt32 m) cs us [97, 98, 99, 100, 101, 102, 103, 104, 105, 106, 107, 108] (33 + j0) h_53 σ_54 Eo F1 F2 F3 F4 s_50 T hc0 (by omega) (by show _ < 256; omega) cp Hc hcp ci oA Ei Hi HA AA U hune Pw rfl ne_s_o ne_sb_o ne_u_o ne_ub_o (Ne.symm ne_o_pw) (Ne.symm ne_o_pwb) (Road.ix_of (Road.n32 (by omega))).1 (by rw [show (65535 : Int32) = Nat.toInt32 65535 from rfl, Road.lt32 (by omega) (by omega)]; omega)) (lenOf bCsI_pd rfl) rfl rfl rfl (by decide) (by decide) (ce' := 15) (sl' := 148) rfl rfl (by decide) (by decide) ?_
    rintro _ h_59 σ_60 m_61 ⟨rfl, K_62, F1, F2, F3⟩
    replace T := T.keep K_62 (ninS ne_s_o nin0) (ninS ne_sb_o nin0)
    replace U := U.keep K_62 (ninS ne_u_o nin0) (ninS ne_ub_o nin0)
    replace Eo := Eo.keep K_62
    replace Pw := Pw.keep K_62 (ninS (Ne.symm ne_o_pw) nin0) (ninS (Ne.symm ne_o_pwb) nin0)
    replace s_50 := m_61 _ s_50
    refine Road.astore 145 #[.val (.int p0), .val (.int p1), .val (.int p2), .val (.int p3), .val (.int p4), .val (.int p5), .val (.int (Nat.toInt32 m)), .val (.int c0), .val (.int c1), .val (.int c2), .val (.int c3), .val (.ref ar), .val (.ref br), .val (.ref s), .val (.ref u), .val (.ref o), .unset, .unset] b0_d145 rfl ?_
    refine Road.aload 147 b0_d147 rfl ?_
    refine Road.callV (B' := bCts) (a := o) 149 (argsL := []) (rest := []) "com/example/orderly_tasks/orderlytasks/ConsoleSettings" 0 b0_d149 (wI hw 129 rfl) (wI hw 130 rfl) (fun vm hz => Road.notFace_sib (args := #[]) (mv (s := D.s.setVm vm) hz (wI hw 132 rfl)) rfl) (wI hw 132 rfl) (wI hw 131 rfl) (wI hw 34 rfl) (wI hw 133 rfl) (by decide) Eo (cCts l Z a0 hw n0 hEW o s sb u ub (c0 :: cs) us (Nat.toInt32 m) h_59 σ_60 F1 F2 F3 T U (by simp only [List.length_cons]; omega) hus (by rw [hdn]; exact hd5) cp Hc hcp o1 o2 HO AO HT AT) (lenOf bCts_pd rfl) rfl rfl rfl (by decide) (by decide) (ce' := 34) (sl' := 1059) rfl rfl (by decide) (by decide) ?_
    rintro _ h_64 σ_65 m_66 ⟨t, td, rfl, K_67, Tt⟩
    replace T := T.keep K_67 nin0 nin0
    replace U := U.keep K_67 nin0 nin0
    replace Eo := Eo.keep K_67
    replace F1 := F1.keep K_67 nin0
    replace F2 := F2.keep K_67 nin0
    replace F3 := F3.keep K_67 nin0
    replace s_50 := m_66 _ s_50
    rw [hdn] at Tt
    refine Road.astore 152 #[.val (.int p0), .val (.int p1), .val (.int p2), .val (.int p3), .val (.int p4), .val (.int p5), .val (.int (Nat.toInt32 m)), .val (.int c0), .val (.int c1), .val (.int c2), .val (.int c3), .val (.ref ar), .val (.ref br), .val (.ref s), .val (.ref u), .val (.ref o), .val (.ref t), .unset] b0_d152 rfl ?_
    refine Road.iload 154 b0_d154 rfl ?_
    refine Road.callS (B' := bDig) 156 (argsL := [(.int (Nat.toInt32 m))]) (rest := []) 0 b0_d156 (wI hw 274 rfl) (wI hw 275 rfl) (wI hw 276 rfl) (wI hw 277 rfl) (by decide) (cDig l Z a0 hw n0 hEW m h_64 σ_65 hm) (lenOf bDig_pd rfl) rfl rfl rfl (by decide) (by decide) (ce' := 34) (sl' := 1059) rfl rfl (by decide) (by decide) ?_
    rintro _ h_69 σ_70 m_71 ⟨rfl, rfl⟩
    refine Road.Go.weaken (σ' := σ_65) m_71 (Nat.le_refl _) (Nat.le_refl _) ?_
    refine Road.istore 159 #[.val (.int p0), .val (.int p1), .val (.int p2), .val (.int p3), .val (.int p4), .val (.int p5), .val (.int (Nat.toInt32 m)), .val (.int c0), .val (.int c1), .val (.int c2), .val (.int c3), .val (.ref ar), .val (.ref br), .val (.ref s), .val (.ref u), .val (.ref o), .val (.ref t), .val (.int (Nat.toInt32 (Road.decN m).length))] b0_d159 rfl ?_
    refine Road.aload 161 b0_d161 rfl ?_
    refine Road.callV (B' := bLen) (a := t) 163 (argsL := []) (rest := []) "java/lang/String" 0 b0_d163 (wI hw 278 rfl) (wI hw 90 rfl) (fun vm hz => Road.notFace_sib (args := #[]) (mv (s := D.s.setVm vm) hz (wI hw 57 rfl)) rfl) (wI hw 92 rfl) (wI hw 91 rfl) (wI hw 5 rfl) (wI hw 93 rfl) (by decide) Tt.1 (cLen l Z a0 hw n0 hEW t td ([67, 111, 110, 115, 111, 108, 101, 83, 101, 116, 116, 105, 110, 103, 115, 91, 98, 105, 110, 100, 61] ++ (c0 :: cs) ++ [44, 32, 112, 111, 114, 116, 61] ++ Road.decN m ++ [44, 32, 117, 115, 101, 114, 61] ++ us ++ [93]) h_64 σ_65 Tt cp Hc hcp) (lenOf bLen_pd rfl) rfl rfl rfl (by decide) (by decide) (ce' := 34) (sl' := 1059) rfl rfl (by decide) (by decide) ?_
    rintro _ h_73 σ_74 m_75 ⟨rfl, rfl⟩
    refine Road.Go.weaken (σ' := σ_65) m_75 (Nat.le_refl _) (Nat.le_refl _) ?_
    refine Road.bipush 166 (36 : Int32) b0_d166 rfl ?_
    refine Road.aload 168 b0_d168 rfl ?_
    refine Road.callV (B' := bLen) (a := s) 170 (argsL := []) (rest := [(.int (36 : Int32)), (.int (Nat.toInt32 ([67, 111, 110, 115, 111, 108, 101, 83, 101, 116, 116, 105, 110, 103, 115, 91, 98, 105, 110, 100, 61] ++ (c0 :: cs) ++ [44, 32, 112, 111, 114, 116, 61] ++ Road.decN m ++ [44, 32, 117, 115, 101, 114, 61] ++ us ++ [93]).length))]) "java/lang/String" 2 b0_d170 (wI hw 278 rfl) (wI hw 90 rfl) (fun vm hz => Road.notFace_sib (args := #[]) (mv (s := D.s.setVm vm) hz (wI hw 57 rfl)) rfl) (wI hw 92 rfl) (wI hw 91 rfl) (wI hw 5 rfl) (wI hw 93 rfl) (by decide) T.1 (cLen l Z a0 hw n0 hEW s sb (c0 :: cs) h_64 σ_65 T cp Hc hcp) (lenOf bLen_pd rfl) rfl rfl rfl (by decide) (by decide) (ce' := 34) (sl' := 1059) rfl rfl (by decide) (by decide) ?_
    rintro _ h_77 σ_78 m_79 ⟨rfl, rfl⟩
    refine Road.Go.weaken (σ' := σ_65) m_79 (Nat.le_refl _) (Nat.le_refl _) ?_
    refine Road.iadd 173 b0_d173 ?_
    refine Road.iload 174 b0_d174 rfl ?_
    refine Road.iadd 176 b0_d176 ?_
    refine Road.aload 177 b0_d177 rfl ?_
    refine Road.callV (B' := bLen) (a := u) 179 (argsL := []) (rest := [(.int (((36 : Int32) + (Nat.toInt32 (c0 :: cs).length)) + (Nat.toInt32 (Road.decN m).length))), (.int (Nat.toInt32 ([67, 111, 110, 115, 111, 108, 101, 83, 101, 116, 116, 105, 110, 103, 115, 91, 98, 105, 110, 100, 61] ++ (c0 :: cs) ++ [44, 32, 112, 111, 114, 116, 61] ++ Road.decN m ++ [44, 32, 117, 115, 101, 114, 61] ++ us ++ [93]).length))]) "java/lang/String" 2 b0_d179 (wI hw 278 rfl) (wI hw 90 rfl) (fun vm hz => Road.notFace_sib (args := #[]) (mv (s := D.s.setVm vm) hz (wI hw 57 rfl)) rfl) (wI hw 92 rfl) (wI hw 91 rfl) (wI hw 5 rfl) (wI hw 93 rfl) (by decide) U.1 (cLen l Z a0 hw n0 hEW u ub us h_64 σ_65 U cp Hc hcp) (lenOf bLen_pd rfl) rfl rfl rfl (by decide) (by decide) (ce' := 34) (sl' := 1059) rfl rfl (by decide) (by decide) ?_
    rintro _ h_81 σ_82 m_83 ⟨rfl, rfl⟩
    refine Road.Go.weaken (σ' := σ_65) m_83 (Nat.le_refl _) (Nat.le_refl _) ?_
    refine Road.iadd 182 b0_d182 ?_
    refine Road.icmp_eq 183 188 b0_d183 rfl (fun hc183 => ?_) (fun q => absurd q (by rw [Decidable.not_not, show (36 : Int32) = Nat.toInt32 36 from rfl, Road.add32n, Road.add32n, Road.add32n]; congr 1; simp only [List.length_append, List.length_cons, List.length_nil]; omega))
    exact Road.Go.weaken (σ' := σ_65) (fun _ q => q) (ce' := 34) (sl' := 1059) (by decide) (by decide) (J188 h_64 σ_65 ar br s sb u ub o t td cs us Tt T U hcs hus)
  have J104 : ∀ (h : Heap) (τ : Addr → Prop) (ar br s sb : Addr) (cs : List Int32), Road.Str Z h s sb (c0 :: cs) → cs.length ≤ 1 → Road.Ary Z h br .char (([c2, c3] : List Int32).map .int) → Road.Go l Z a0 consts_1 n0 false b0 D (fun v h2 _ => v = some (.int 1)) h τ 4 10 104 #[.val (.int p0), .val (.int p1), .val (.int p2), .val (.int p3), .val (.int p4), .val (.int p5), .val (.int (Nat.toInt32 m)), .val (.int c0), .val (.int c1), .val (.int c2), .val (.int c3), .val (.ref ar), .val (.ref br), .val (.ref s), .unset, .unset, .unset, .unset] [] := by
    intro h τ ar br s sb cs T hcs Ab
    refine Road.iload 104 b0_d104 rfl ?_
    refine Road.iconst 106 (2 : Int32) b0_d106 rfl ?_
    refine Road.iand 107 b0_d107 ?_
    refine Road.if_eq 108 123 b0_d108 rfl (fun hc108 => ?_) (fun hc108 => ?_)
    · skip
      refine Road.iload 123 b0_d123 rfl ?_
      refine Road.callS (B' := bVal) 125 (argsL := [(.int c2)]) (rest := []) 0 b0_d125 (wI hw 309 rfl) (wI hw 310 rfl) (wI hw 5 rfl) (wI hw 311 rfl) (by decide) (cVal l Z a0 hw n0 hEW c2 h τ lat2 cp Hc hcp) (lenOf bVal_pd rfl) rfl rfl rfl (by decide) (by decide) (ce' := 6) (sl' := 15) rfl rfl (by decide) (by decide) ?_
      rintro _ h_85 σ_86 m_87 ⟨u, ub, rfl, -, -, K_88, U⟩
      replace T := T.keep K_88 nin0 nin0
      replace Ab := Ab.keep K_88 nin0
      refine Road.astore 128 #[.val (.int p0), .val (.int p1), .val (.int p2), .val (.int p3), .val (.int p4), .val (.int p5), .val (.int (Nat.toInt32 m)), .val (.int c0), .val (.int c1), .val (.int c2), .val (.int c3), .val (.ref ar), .val (.ref br), .val (.ref s), .val (.ref u), .unset, .unset, .unset] b0_d128 rfl ?_
      exact Road.Go.weaken (σ' := σ_86) (fun _ q => q) (ce' := 6) (sl' := 16) (by decide) (by decide) (J130 h_85 σ_86 ar br s sb u ub cs [c2] T U hcs (by simp) (by simp))
    · skip
      refine Road.new 111 "java/lang/String" b0_d111 (wI hw 3 rfl) (wI hw 4 rfl) (wI hw 5 rfl) (ce' := 5) (sl' := 14) rfl rfl (by decide) (by decide) ?_
      intro u h_89 σ_90 g_91 K_92 lt_93 m_94 s_95 Eu D_96 M_97
      have ne_s_u : s ≠ u := Nat.ne_of_lt (Nat.lt_of_lt_of_le T.lt (Nat.le_of_eq g_91.symm))
      have ne_sb_u : sb ≠ u := Nat.ne_of_lt (Nat.lt_of_lt_of_le T.ltb (Nat.le_of_eq g_91.symm))
      have ne_br_u : br ≠ u := Nat.ne_of_lt (Nat.lt_of_lt_of_le Ab.lt (Nat.le_of_eq g_91.symm))
      replace T := T.keep K_92 nin0 nin0
      replace Ab := Ab.keep K_92 nin0
      have Cu := D_96 (Or.inr (wI hw 29 rfl)) (ty := .byte) (by decide)
      have Vu := D_96 (Or.inr (wI hw 31 rfl)) (ty := (.array .byte)) (by decide)
      refine Road.dup 114 b0_d114 ?_
      refine Road.aload 115 b0_d115 rfl ?_
      refine Road.callI (B' := bStr1) (a := u) 117 (argsL := [(.ref br)]) (rest := [(.ref u)]) 1 b0_d117 (wI hw 6 rfl) (wI hw 7 rfl) (wI hw 5 rfl) (wI hw 8 rfl) rfl rfl (by decide) (cStr1 l Z a0 hw n0 hEW u br [c2, c3] h_89 σ_90 Eu Cu Vu Ab (by simp) (by intro c hc; simp only [List.mem_cons, List.not_mem_nil, or_false] at hc; rcases hc with rfl | rfl <;> assumption) s_95 cp Hc hcp (by simp)) (lenOf bStr1_pd rfl) rfl rfl rfl (by decide) (by decide) (ce' := 6) (sl' := 16) rfl rfl (by decide) (by decide) ?_
      rintro _ h_98 σ_99 m_100 ⟨rfl, K_101, du, Su, Nu⟩
      replace T := T.keep K_101 (ninS ne_s_u nin0) (ninS ne_sb_u nin0)
      replace s_95 := m_100 _ s_95
      refine Road.goto 120 128 b0_d120 rfl ?_
      refine Road.astore 128 #[.val (.int p0), .val (.int p1), .val (.int p2), .val (.int p3), .val (.int p4), .val (.int p5), .val (.int (Nat.toInt32 m)), .val (.int c0), .val (.int c1), .val (.int c2), .val (.int c3), .val (.ref ar), .val (.ref br), .val (.ref s), .val (.ref u), .unset, .unset, .unset] b0_d128 rfl ?_
      exact Road.Go.weaken (σ' := σ_99) (fun _ q => q) (ce' := 6) (sl' := 16) (by decide) (by decide) (J130 h_98 σ_99 ar br s sb u _ cs [c2, c3] T Su hcs (by simp) (by simp))
  refine Road.iconst 48 (2 : Int32) b0_d48 rfl ?_
  refine Road.newarray 49 .char 2 2 b0_d49 rfl (wI hw 2 rfl) (by decide) (by decide) (by decide) (ce' := 1) (sl' := 2) rfl rfl (by decide) (by decide) ?_
  intro ar h_103 σ_104 g_105 K_106 lt_107 m_108 s_109 Aar
  refine Road.dup 51 b0_d51 ?_
  refine Road.iconst 52 (0 : Int32) b0_d52 rfl ?_
  refine Road.iload 53 b0_d53 rfl ?_
  refine Road.castore 55 0 c0 b0_d55 Aar (by decide) (by simp) (Road.nar_lat lat0) s_109 ?_
  intro h_110 K_111 A_112
  replace Aar := A_112
  refine Road.dup 56 b0_d56 ?_
  refine Road.iconst 57 (1 : Int32) b0_d57 rfl ?_
  refine Road.iload 58 b0_d58 rfl ?_
  refine Road.castore 60 1 c1 b0_d60 Aar (by decide) (by simp) (Road.nar_lat lat1) s_109 ?_
  intro h_113 K_114 A_115
  replace Aar := A_115
  replace Aar : Road.Ary Z h_113 ar .char (([c0, c1] : List Int32).map .int) := Aar
  refine Road.astore 61 #[.val (.int p0), .val (.int p1), .val (.int p2), .val (.int p3), .val (.int p4), .val (.int p5), .val (.int (Nat.toInt32 m)), .val (.int c0), .val (.int c1), .val (.int c2), .val (.int c3), .val (.ref ar), .unset, .unset, .unset, .unset, .unset, .unset] b0_d61 rfl ?_
  refine Road.iconst 63 (2 : Int32) b0_d63 rfl ?_
  refine Road.newarray 64 .char 2 2 b0_d64 rfl (wI hw 2 rfl) (by decide) (by decide) (by decide) (ce' := 2) (sl' := 4) rfl rfl (by decide) (by decide) ?_
  intro br h_116 σ_117 g_118 K_119 lt_120 m_121 s_122 Abr
  have ne_ar_br : ar ≠ br := Nat.ne_of_lt (Nat.lt_of_lt_of_le Aar.lt (Nat.le_of_eq g_118.symm))
  replace Aar := Aar.keep K_119 nin0
  replace s_109 := m_121 _ s_109
  refine Road.dup 66 b0_d66 ?_
  refine Road.iconst 67 (0 : Int32) b0_d67 rfl ?_
  refine Road.iload 68 b0_d68 rfl ?_
  refine Road.castore 70 0 c2 b0_d70 Abr (by decide) (by simp) (Road.nar_lat lat2) s_122 ?_
  intro h_123 K_124 A_125
  replace Aar := Aar.keep K_124 (ninS ne_ar_br nin0)
  replace Abr := A_125
  refine Road.dup 71 b0_d71 ?_
  refine Road.iconst 72 (1 : Int32) b0_d72 rfl ?_
  refine Road.iload 73 b0_d73 rfl ?_
  refine Road.castore 75 1 c3 b0_d75 Abr (by decide) (by simp) (Road.nar_lat lat3) s_122 ?_
  intro h_126 K_127 A_128
  replace Aar := Aar.keep K_127 (ninS ne_ar_br nin0)
  replace Abr := A_128
  replace Abr : Road.Ary Z h_126 br .char (([c2, c3] : List Int32).map .int) := Abr
  refine Road.astore 76 #[.val (.int p0), .val (.int p1), .val (.int p2), .val (.int p3), .val (.int p4), .val (.int p5), .val (.int (Nat.toInt32 m)), .val (.int c0), .val (.int c1), .val (.int c2), .val (.int c3), .val (.ref ar), .val (.ref br), .unset, .unset, .unset, .unset, .unset] b0_d76 rfl ?_
  refine Road.iload 78 b0_d78 rfl ?_
  refine Road.iconst 80 (1 : Int32) b0_d80 rfl ?_
  refine Road.iand 81 b0_d81 ?_
  refine Road.if_eq 82 97 b0_d82 rfl (fun hc82 => ?_) (fun hc82 => ?_)
  · skip
    refine Road.iload 97 b0_d97 rfl ?_
    refine Road.callS (B' := bVal) 99 (argsL := [(.int c0)]) (rest := []) 0 b0_d99 (wI hw 309 rfl) (wI hw 310 rfl) (wI hw 5 rfl) (wI hw 311 rfl) (by decide) (cVal l Z a0 hw n0 hEW c0 h_126 σ_117 lat0 cp Hc hcp) (lenOf bVal_pd rfl) rfl rfl rfl (by decide) (by decide) (ce' := 4) (sl' := 9) rfl rfl (by decide) (by decide) ?_
    rintro _ h_129 σ_130 m_131 ⟨s, sb, rfl, -, -, K_132, T⟩
    replace Aar := Aar.keep K_132 nin0
    replace Abr := Abr.keep K_132 nin0
    replace s_109 := m_131 _ s_109
    replace s_122 := m_131 _ s_122
    refine Road.astore 102 #[.val (.int p0), .val (.int p1), .val (.int p2), .val (.int p3), .val (.int p4), .val (.int p5), .val (.int (Nat.toInt32 m)), .val (.int c0), .val (.int c1), .val (.int c2), .val (.int c3), .val (.ref ar), .val (.ref br), .val (.ref s), .unset, .unset, .unset, .unset] b0_d102 rfl ?_
    exact Road.Go.weaken (σ' := σ_130) (fun _ q => q) (ce' := 4) (sl' := 10) (by decide) (by decide) (J104 h_129 σ_130 ar br s sb [] T (by simp) Abr)
  · skip
    refine Road.new 85 "java/lang/String" b0_d85 (wI hw 3 rfl) (wI hw 4 rfl) (wI hw 5 rfl) (ce' := 3) (sl' := 8) rfl rfl (by decide) (by decide) ?_
    intro s h_135 σ_136 g_137 K_138 lt_139 m_140 s_141 Es D_142 M_143
    have ne_ar_s : ar ≠ s := Nat.ne_of_lt (Nat.lt_of_lt_of_le Aar.lt (Nat.le_of_eq g_137.symm))
    have ne_br_s : br ≠ s := Nat.ne_of_lt (Nat.lt_of_lt_of_le Abr.lt (Nat.le_of_eq g_137.symm))
    replace Aar := Aar.keep K_138 nin0
    replace Abr := Abr.keep K_138 nin0
    replace s_109 := m_140 _ s_109
    replace s_122 := m_140 _ s_122
    have Cs := D_142 (Or.inr (wI hw 29 rfl)) (ty := .byte) (by decide)
    have Vs := D_142 (Or.inr (wI hw 31 rfl)) (ty := (.array .byte)) (by decide)
    refine Road.dup 88 b0_d88 ?_
    refine Road.aload 89 b0_d89 rfl ?_
    refine Road.callI (B' := bStr1) (a := s) 91 (argsL := [(.ref ar)]) (rest := [(.ref s)]) 1 b0_d91 (wI hw 6 rfl) (wI hw 7 rfl) (wI hw 5 rfl) (wI hw 8 rfl) rfl rfl (by decide) (cStr1 l Z a0 hw n0 hEW s ar [c0, c1] h_135 σ_136 Es Cs Vs Aar (by simp) (by intro c hc; simp only [List.mem_cons, List.not_mem_nil, or_false] at hc; rcases hc with rfl | rfl <;> assumption) s_141 cp Hc hcp (by simp)) (lenOf bStr1_pd rfl) rfl rfl rfl (by decide) (by decide) (ce' := 4) (sl' := 10) rfl rfl (by decide) (by decide) ?_
    rintro _ h_144 σ_145 m_146 ⟨rfl, K_147, ds, Ss, Ns⟩
    replace Abr := Abr.keep K_147 (ninS ne_br_s nin0)
    replace s_109 := m_146 _ s_109
    replace s_122 := m_146 _ s_122
    replace s_141 := m_146 _ s_141
    refine Road.goto 94 102 b0_d94 rfl ?_
    refine Road.astore 102 #[.val (.int p0), .val (.int p1), .val (.int p2), .val (.int p3), .val (.int p4), .val (.int p5), .val (.int (Nat.toInt32 m)), .val (.int c0), .val (.int c1), .val (.int c2), .val (.int c3), .val (.ref ar), .val (.ref br), .val (.ref s), .unset, .unset, .unset, .unset] b0_d102 rfl ?_
    exact Road.Go.weaken (σ' := σ_145) (fun _ q => q) (ce' := 4) (sl' := 10) (by decide) (by decide) (J104 h_144 σ_145 ar br s _ [c1] Ss (by simp) Abr)
set_option maxHeartbeats 40000000 in
theorem comes_1 {Post : Tables → Env → Array Value → State → Outcome → State → Prop} (hpost : ∀ tb e args s v u, (limb_1_1.after args s (.returned v) u = true ∧ limb_1_2.after args s (.returned v) u = true ∧ True) → ReturnedEndW s (.returned v) u (Jvm.fieldLocs frame_1_writes args s ++ Jvm.arrayLocs frame_1_arrays args s ++ Jvm.staticLocs frame_1_statics s) 56 11776 → Post tb e args s (.returned v) u) :
    ArmFor flags0 classFile x code maxLocals ret World_1 tables_1 room_1 Calls_1 rest_1 Pre_1 Post := by
  intro l hfl _ _ p e ha hc hk s m args below hf hA hF happ hP
  obtain ⟨hcalls, hrest, hpre⟩ := hP
  obtain ⟨-, -, -, hnamed, -, -, -, hat⟩ := (Spec.applies_iff hf).mp happ
  obtain ⟨hg, hn⟩ := and_e (Cond.before_iff.mp (show (Jvm.Cond.and given_1 narrow_1).before args s = true from hpre))
  obtain ⟨h1, hr1⟩ := and_e hg
  obtain ⟨g0, hr2⟩ := and_e hr1
  obtain ⟨g1, hr3⟩ := and_e hr2
  obtain ⟨g2, hr4⟩ := and_e hr3
  obtain ⟨g3, hr5⟩ := and_e hr4
  obtain ⟨g4, hr6⟩ := and_e hr5
  have g5 := hr6
  obtain ⟨w0, w1, w2, w3, w4, w5, rfl⟩ : ∃ w0 w1 w2 w3 w4 w5 : Value, args = #[w0, w1, w2, w3, w4, w5] := by
    have hs : args.size = 6 := by simpa [Cond.value, given_1] using h1
    obtain ⟨L⟩ := args
    match L, hs with
    | [w0, w1, w2, w3, w4, w5], _ => exact ⟨w0, w1, w2, w3, w4, w5, rfl⟩
  obtain ⟨p0, ev0⟩ := is_v g0
  obtain rfl : w0 = (.int p0) := Option.some.inj ev0
  obtain ⟨p1, ev1⟩ := is_v g1
  obtain rfl : w1 = (.int p1) := Option.some.inj ev1
  obtain ⟨p2, ev2⟩ := is_v g2
  obtain rfl : w2 = (.int p2) := Option.some.inj ev2
  obtain ⟨p3, ev3⟩ := is_v g3
  obtain rfl : w3 = (.int p3) := Option.some.inj ev3
  obtain ⟨p4, ev4⟩ := is_v g4
  obtain rfl : w4 = (.int p4) := Option.some.inj ev4
  obtain ⟨p5, ev5⟩ := is_v g5
  obtain rfl : w5 = (.int p5) := Option.some.inj ev5
  have hw := fun d (hd : d ∈ tables_1) => atoms_spec (ws := Jvm.Cond.code x code maxLocals ret :: tables_1) hat d (List.mem_cons_of_mem _ hd)
  obtain ⟨hsets, hown0⟩ := atoms_of _ (rest_1_c_eq ▸ (show rest_1_c.before _ s = true from hrest))
  have hfit : Fit s := fun {y c} hc i hi => by
    obtain ⟨ha, rfl⟩ := Array.getElem?_eq_some_iff.mp hc
    have q := List.all_eq_true.mp ((Array.all_eq_true_iff_forall_mem.mp hF) _ (Array.getElem_mem ha)) i (List.mem_range.mpr hi)
    simpa [Array.getElem?_eq_getElem hi] using q
  have hcw := hsets _ (List.mem_of_getElem? (i := 2) rfl)
  have n5 := not_v (Cond.before_iff.mp hcw)
  obtain ⟨cp, e10⟩ := is_v (Cond.before_iff.mp (hsets _ (List.mem_of_getElem? (i := 1) rfl)))
  have Hc : Sta s s.heap "java/lang/String" "COMPACT_STRINGS" "Z" (.int cp) := Sta.start e10 (Or.inl (hsets _ (List.mem_of_getElem? (i := 0) rfl)))
  have hcp : ¬ (cp = (0 : Int32)) := gotF (Cond.eq_ints e10 (Term.int_eval (0))) n5
  have hEW : EW s _ consts_1 := (EW.cons (wI hw 47 rfl) (by decide) (EW.cons (wI hw 52 rfl) (by decide) (EW.cons (wI hw 53 rfl) (by decide) (EW.cons (wI hw 152 rfl) (by decide) (EW.cons (wI hw 214 rfl) (by decide) (EW.cons (wI hw 237 rfl) (by decide) (EW.cons (wI hw 238 rfl) (by decide) (EW.cons (wI hw 35 rfl) (by decide) (EW.cons (wI hw 303 rfl) (by decide) (EW.cons (wI hw 304 rfl) (by decide) (EW.cons (wI hw 308 rfl) (by decide) EW.nil)))))))))))
  have hCH : CHv s consts_1 s.vm s.heap := CHv.start hEW (fun q hq => hcalls.1 q hq) hcw (wI hw 21 rfl) (wI hw 4 rfl)
  obtain ⟨fm, efm, hfm⟩ := isR_v (Cond.before_iff.mp (hsets _ (List.mem_of_getElem? (i := 8) rfl)))
  have Hf : Sta s s.heap "jdk/internal/util/Preconditions" "SIOOBE_FORMATTER" "Ljava/util/function/BiFunction;" fm := Sta.start efm (Or.inl (hsets _ (List.mem_of_getElem? (i := 7) rfl)))
  obtain ⟨o1, eo1⟩ := exa_v (Cond.before_iff.mp (hsets _ (List.mem_of_getElem? (i := 276) rfl)))
  have HO := Sta.start eo1 (Or.inl (hsets _ (List.mem_of_getElem? (i := 275) rfl)))
  have AO : Road.Ary s s.heap o1 .byte Road.OnesL := Road.Ary.boot eo1 (Cond.before_iff.mp (hsets _ (List.mem_of_getElem? (i := 276) rfl))) (wI hw 21 rfl) (Cond.before_iff.mp (hsets _ (List.mem_of_getElem? (i := 277) rfl))) (by decide) (Cond.before_iff.mp (hsets _ (List.mem_of_getElem? (i := 278) rfl))) Road.ones_boot
  obtain ⟨o2, eo2⟩ := exa_v (Cond.before_iff.mp (hsets _ (List.mem_of_getElem? (i := 281) rfl)))
  have HT := Sta.start eo2 (Or.inl (hsets _ (List.mem_of_getElem? (i := 280) rfl)))
  have AT : Road.Ary s s.heap o2 .byte Road.TensL := Road.Ary.boot eo2 (Cond.before_iff.mp (hsets _ (List.mem_of_getElem? (i := 281) rfl))) (wI hw 21 rfl) (Cond.before_iff.mp (hsets _ (List.mem_of_getElem? (i := 282) rfl))) (by decide) (Cond.before_iff.mp (hsets _ (List.mem_of_getElem? (i := 283) rfl))) Road.tens_boot
  obtain ⟨ci, eci⟩ := exa_v (Cond.before_iff.mp (hsets _ (List.mem_of_getElem? (i := 11) rfl)))
  have Ei := Exa.start eci (Cond.before_iff.mp (hsets _ (List.mem_of_getElem? (i := 11) rfl)))
  have Hi := Sta.start eci (Or.inl (hsets _ (List.mem_of_getElem? (i := 10) rfl)))
  obtain ⟨oA, eoA⟩ := exa_v (Cond.before_iff.mp (hsets _ (List.mem_of_getElem? (i := 15) rfl)))
  have HA := Sta.start eoA (Or.inl (hsets _ (List.mem_of_getElem? (i := 13) rfl)))
  have AA : Road.Ary s s.heap oA .int (AL.map .int) := Road.Ary.start eoA (Cond.before_iff.mp (hsets _ (List.mem_of_getElem? (i := 14) rfl))) (Cond.before_iff.mp (hsets _ (List.mem_of_getElem? (i := 16) rfl))) rfl (fun i hi => by
    have hi' : i < 256 := by rw [List.length_map, AL_len] at hi; exact hi
    have hq := Road.eq_int_of (Cond.before_iff.mp (hsets _ (List.mem_of_getElem? (i := 17 + i) (AL_sets ⟨i, hi'⟩))))
    exact ⟨Nat.toInt32 i, Road.n32 (by omega), by rw [hq, List.getElem?_map, List.getElem?_eq_getElem (by rw [AL_len]; exact hi')]; rfl⟩) (by intro v hv; obtain ⟨x, -, rfl⟩ := List.mem_map.mp hv; rfl)
  obtain ⟨n, o, z1, z2, z3, v, L, rfl, hQ, N, -, -, hE⟩ := law l s _ hw s.heap.size hEW p0 p1 p2 p3 p4 p5 s.heap (fun _ => False) cp Hc hcp fm hfm Hf o1 o2 HO AO HT AT ci oA Ei Hi HA AA tables_1 p e ha hc hk s m _ below hf ((Spec.applies_iff_loose hf).mp happ).1 ⟨rfl, State.Warmed39.refl s, rfl, hCH, Old.start s, Nat.add_le_add_left (by decide) _, fun _ q => q.elim⟩ (fun q => nomatch q)
  have hQ : v = some (.int 1) := hQ
  subst hQ
  refine ⟨n, _, z1, z2, z3, hpost _ _ _ _ _ _ ⟨Cond.after_iff.mpr rfl, Cond.after_iff.mpr (eq_i res_at (Term.int_eval (1)) rfl), trivial⟩ ⟨hE.1, hE.2.1, hE.2.2.1, (hE.2.2.2.sift fun y hy => Or.inr (N y hy)).mono (by decide) (by decide)⟩⟩
theorem main_1_1 : Claimed_1_1 := comes_1 fun _ _ _ _ _ _ h hF => ⟨h.1, hF⟩
theorem main_1_2 : Claimed_1_2 := comes_1 fun _ _ _ _ _ _ h hF => ⟨h.2.1, hF⟩
end Jvm.Pilot.@@N@@
namespace Jvm.Pilot.@@N@@
open Jvm Jvm.ClassFile Sem Op Lib Jvm.Free Jvm.Stand Jvm.Pilot.@@N@@.Jvm.D
/-! MADE BY PROGRAM (witnessworld.py) out of the Statement's table words and the real class files: 32 classes; the members and pool entries that the words name. The judged class is class 1, her method 1. -/
namespace start1
open Jvm.ClassFile
def u (s : String) : CpInfo := .utf8 (stringToUtf16 s)
/-- a pool by its gaps: so many unusable entries, then the entry; so many at the end -/
def gap : Nat → List CpInfo → List CpInfo
  | 0, r => r
  | n + 1, r => .unusable :: gap n r
def poolList (es : List (Nat × CpInfo)) (last : Nat) : List CpInfo := es.foldr (fun e r => gap e.1 (e.2 :: r)) (gap last [])
def pool (es : List (Nat × CpInfo)) (last : Nat) : Array CpInfo := ⟨poolList es last⟩
def fileOf (pool : Array CpInfo) (this : Nat) (attrs : Array Attribute := #[]) (ms : Array MethodInfo := #[]) (fl : Nat := 33) (sup : Nat := 0) (ifs : Array Nat := #[]) (fds : Array FieldInfo := #[]) : ClassFile where
  minorVersion := 0
  majorVersion := 65
  constantPool := pool
  accessFlags := fl
  thisClass := this
  superClass := sup
  interfaces := ifs
  fields := fds
  methods := ms
  attributes := attrs
def plain (name : String) (sup : Option ClassId) : Class where
  name := name
  kind := .ordinary
  loader := none
  accessFlags := 33
  super := sup
  interfaces := #[]
  cf := none
  fields := #[]
  methods := #[]
  instanceTypes := #[]
  staticTypes := #[]
  resolved := #[]
  callSites := []
  init := .initialized
  statics := none
  mirror := none

def pool0 : Array CpInfo := pool [(5, u "<init>"), (0, u "()V"), (1, .class_ 10), (1, u "java/lang/Object")] 113

def k0c0 : Code := { maxStack := 0, maxLocals := 1, code := object_method_1_code, exceptionTable := #[], attributes := #[] }
def k0m0 : Method := { name := "<init>", desc := "()V", sig := { parameters := [], returnType := none }, accessFlags := 1, code := some k0c0 }
/-- java/lang/Object -/
def k0 : Class := { plain "java/lang/Object" none with
  accessFlags := 33
  interfaces := #[]
  cf := some (fileOf pool0 8 #[] #[{ accessFlags := 1, nameIndex := 5, descriptorIndex := 6, attributes := #[] }] 33 0 #[] #[])
  fields := #[]
  methods := #[k0m0]
  instanceTypes := #[]
  staticTypes := #[]
  resolved := Array.replicate 124 none
  statics := none }

def pool1 : Array CpInfo := pool [(2, .class_ 4), (1, u "java/lang/Object"), (0, u "<init>"), (0, u "()V"), (0, .integer 2147483647), (0, .integer 65536), (0, .class_ 10), (0, u "java/lang/String"), (0, .methodref 9 12), (0, .nameAndType 5 13), (0, u "([C)V"), (0, .methodref 9 15), (0, .nameAndType 16 17), (0, u "valueOf"), (0, u "(C)Ljava/lang/String;"), (0, .class_ 19), (0, u "com/example/orderly_tasks/orderlytasks/ConsoleSettings"), (0, .string 21), (0, u "abcdefghijkl"), (0, .methodref 18 23), (0, .nameAndType 5 24), (0, u "(Ljava/lang/String;ILjava/lang/String;Ljava/lang/String;)V"), (0, .methodref 18 26), (0, .nameAndType 27 28), (0, u "toString"), (0, u "()Ljava/lang/String;"), (0, .methodref 30 31), (0, .class_ 32), (0, .nameAndType 33 34), (0, u "com/example/orderly_tasks/orderlytasks/ConsoleSettingsToStringPinLaw"), (0, u "digits"), (0, u "(I)I"), (0, .methodref 9 36), (0, .nameAndType 37 38), (0, u "length"), (0, u "()I"), (0, .methodref 30 40), (0, .nameAndType 41 42), (0, u "at5"), (0, u "(Ljava/lang/String;ILjava/lang/String;IILjava/lang/String;)Z"), (0, .string 44), (0, u "ConsoleSettings[bind="), (0, .methodref 9 46), (0, .nameAndType 47 48), (0, u "charAt"), (0, u "(I)C"), (0, .string 50), (0, u ", port="), (0, .methodref 30 52), (0, .nameAndType 53 34), (0, u "pow10"), (0, .string 55), (0, u ", user="), (0, .methodref 30 57), (0, .nameAndType 58 59), (0, u "exp"), (0, u "(ILjava/lang/String;IILjava/lang/String;)C"), (0, .methodref 30 61), (0, .nameAndType 62 42), (0, u "at"), (2, u "law"), (0, u "(IIIIII)Z")] 5

def k1m0 : Method := { name := "<init>", desc := "()V", sig := { parameters := [], returnType := none }, accessFlags := 1, code := none }
def k1c1 : Code := { maxStack := 6, maxLocals := 18, code := code, exceptionTable := #[], attributes := #[] }
def k1m1 : Method := { name := "law", desc := "(IIIIII)Z", sig := { parameters := [.int, .int, .int, .int, .int, .int], returnType := some .boolean }, accessFlags := 9, code := some k1c1 }
def k1c2 : Code := { maxStack := 2, maxLocals := 1, code := method_3_code, exceptionTable := #[], attributes := #[] }
def k1m2 : Method := { name := "digits", desc := "(I)I", sig := { parameters := [.int], returnType := some .int }, accessFlags := 10, code := some k1c2 }
def k1c3 : Code := { maxStack := 2, maxLocals := 1, code := method_4_code, exceptionTable := #[], attributes := #[] }
def k1m3 : Method := { name := "pow10", desc := "(I)I", sig := { parameters := [.int], returnType := some .int }, accessFlags := 10, code := some k1c3 }
def k1c4 : Code := { maxStack := 4, maxLocals := 6, code := method_5_code, exceptionTable := #[], attributes := #[] }
def k1m4 : Method := { name := "exp", desc := "(ILjava/lang/String;IILjava/lang/String;)C", sig := { parameters := [.int, (.object "java/lang/String"), .int, .int, (.object "java/lang/String")], returnType := some .char }, accessFlags := 10, code := some k1c4 }
def k1c5 : Code := { maxStack := 6, maxLocals := 6, code := method_6_code, exceptionTable := #[], attributes := #[] }
def k1m5 : Method := { name := "at", desc := "(Ljava/lang/String;ILjava/lang/String;IILjava/lang/String;)Z", sig := { parameters := [(.object "java/lang/String"), .int, (.object "java/lang/String"), .int, .int, (.object "java/lang/String")], returnType := some .boolean }, accessFlags := 10, code := some k1c5 }
def k1c6 : Code := { maxStack := 6, maxLocals := 6, code := method_7_code, exceptionTable := #[], attributes := #[] }
def k1m6 : Method := { name := "at5", desc := "(Ljava/lang/String;ILjava/lang/String;IILjava/lang/String;)Z", sig := { parameters := [(.object "java/lang/String"), .int, (.object "java/lang/String"), .int, .int, (.object "java/lang/String")], returnType := some .boolean }, accessFlags := 10, code := some k1c6 }
/-- com/example/orderly_tasks/orderlytasks/ConsoleSettingsToStringPinLaw -/
def k1 : Class := { plain "com/example/orderly_tasks/orderlytasks/ConsoleSettingsToStringPinLaw" (some 0) with
  accessFlags := 49
  interfaces := #[]
  cf := some (fileOf pool1 30 #[] #[{ accessFlags := 1, nameIndex := 5, descriptorIndex := 6, attributes := #[] }, { accessFlags := 9, nameIndex := 65, descriptorIndex := 66, attributes := #[] }, { accessFlags := 10, nameIndex := 33, descriptorIndex := 34, attributes := #[] }, { accessFlags := 10, nameIndex := 53, descriptorIndex := 34, attributes := #[] }, { accessFlags := 10, nameIndex := 58, descriptorIndex := 59, attributes := #[] }, { accessFlags := 10, nameIndex := 62, descriptorIndex := 42, attributes := #[] }, { accessFlags := 10, nameIndex := 41, descriptorIndex := 42, attributes := #[] }] 49 2 #[] #[])
  fields := #[]
  methods := #[k1m0, k1m1, k1m2, k1m3, k1m4, k1m5, k1m6]
  instanceTypes := #[]
  staticTypes := #[]
  resolved := Array.replicate 72 none
  statics := none }

def pool2 : Array CpInfo := pool [(1, .class_ 2), (0, u "java/io/Serializable"), (0, .class_ 4), (0, u "java/lang/Object")] 2

/-- java/io/Serializable -/
def k2 : Class := { plain "java/io/Serializable" (some 0) with
  accessFlags := 1537
  interfaces := #[]
  cf := some (fileOf pool2 1 #[] #[] 1537 3 #[] #[])
  fields := #[]
  methods := #[]
  instanceTypes := #[]
  staticTypes := #[]
  resolved := Array.replicate 7 none
  statics := none }

def pool3 : Array CpInfo := pool [(1, .class_ 2), (0, u "java/lang/Comparable"), (0, .class_ 4), (0, u "java/lang/Object")] 7

/-- java/lang/Comparable -/
def k3 : Class := { plain "java/lang/Comparable" (some 0) with
  accessFlags := 1537
  interfaces := #[]
  cf := some (fileOf pool3 1 #[] #[] 1537 3 #[] #[])
  fields := #[]
  methods := #[]
  instanceTypes := #[]
  staticTypes := #[]
  resolved := Array.replicate 12 none
  statics := none }

def pool4 : Array CpInfo := pool [(2, .class_ 4), (1, u "java/lang/CharSequence"), (42, .class_ 48), (0, u "java/lang/CharSequence$1CodePointIterator"), (10, .class_ 60), (0, u "java/lang/CharSequence$1CharIterator"), (5, .class_ 67), (0, u "java/lang/Object")] 63

/-- java/lang/CharSequence -/
def k4 : Class := { plain "java/lang/CharSequence" (some 0) with
  accessFlags := 1537
  interfaces := #[]
  cf := some (fileOf pool4 2 #[.nestMembers #[47, 59]] #[] 1537 66 #[] #[])
  fields := #[]
  methods := #[]
  instanceTypes := #[]
  staticTypes := #[]
  resolved := Array.replicate 131 none
  statics := none }

def pool5 : Array CpInfo := pool [(1, .class_ 2), (0, u "java/lang/constant/Constable"), (0, .class_ 4), (0, u "java/lang/Object")] 6

/-- java/lang/constant/Constable -/
def k5 : Class := { plain "java/lang/constant/Constable" (some 0) with
  accessFlags := 1537
  interfaces := #[]
  cf := some (fileOf pool5 1 #[] #[] 1537 3 #[] #[])
  fields := #[]
  methods := #[]
  instanceTypes := #[]
  staticTypes := #[]
  resolved := Array.replicate 11 none
  statics := none }

def pool6 : Array CpInfo := pool [(1, .class_ 2), (0, u "java/lang/constant/ConstantDesc"), (0, .class_ 4), (0, u "java/lang/Object")] 32

/-- java/lang/constant/ConstantDesc -/
def k6 : Class := { plain "java/lang/constant/ConstantDesc" (some 0) with
  accessFlags := 1537
  interfaces := #[]
  cf := some (fileOf pool6 1 #[] #[] 1537 3 #[] #[])
  fields := #[]
  methods := #[]
  instanceTypes := #[]
  staticTypes := #[]
  resolved := Array.replicate 37 none
  statics := none }

def pool7 : Array CpInfo := pool [(1, .methodref 2 3), (0, .class_ 4), (0, .nameAndType 5 6), (0, u "java/lang/Object"), (0, u "<init>"), (0, u "()V"), (2, .fieldref 10 11), (0, .class_ 12), (0, .nameAndType 13 14), (0, u "java/lang/String"), (0, u "value"), (0, u "[B"), (0, .fieldref 10 16), (0, .nameAndType 17 18), (0, u "coder"), (0, u "B"), (2, u "hash"), (0, u "I"), (2, u "hashIsZero"), (0, u "Z"), (0, .methodref 10 28), (0, .nameAndType 5 29), (0, u "([CIILjava/lang/Void;)V"), (7, u "(III)I"), (0, .fieldref 10 39), (0, .nameAndType 40 26), (0, u "COMPACT_STRINGS"), (1, .class_ 44), (1, u "java/lang/StringUTF16"), (0, u "compress"), (1, .methodref 42 48), (0, .nameAndType 49 50), (0, u "coderFromArrayLen"), (0, u "([BI)B"), (2, u "toBytes"), (0, .methodref 55 56), (0, .class_ 57), (0, .nameAndType 58 59), (0, u "java/util/Arrays"), (0, u "copyOfRange"), (0, u "([BII)[B"), (19, .class_ 81), (1, u "java/util/Objects"), (25, .class_ 109), (1, u "java/lang/StringLatin1"), (32, u "()Z"), (34, .methodref 42 178), (0, .nameAndType 45 179), (0, u "([CII)[B"), (13, .class_ 195), (1, u "java/lang/System"), (13, .methodref 10 210), (0, .nameAndType 5 211), (0, u "([BB)V"), (0, .methodref 193 213), (0, .nameAndType 214 215), (0, u "arraycopy"), (0, u "(Ljava/lang/Object;ILjava/lang/Object;II)V"), (118, u "()I"), (0, .methodref 10 336), (0, .nameAndType 17 337), (0, u "()B"), (2, u "()[B"), (22, u "([BI)C"), (5, u "(C)Z"), (21, u "(II)V"), (35, u "(I)C"), (61, .methodref 10 490), (0, .nameAndType 5 491), (0, u "(Ljava/lang/AbstractStringBuilder;Ljava/lang/Void;)V"), (0, .methodref 10 493), (0, .nameAndType 494 142), (0, u "isLatin1"), (0, .methodref 107 496), (0, .nameAndType 497 363), (0, u "charAt"), (3, u "checkIndex"), (3, .methodref 10 506), (0, .nameAndType 507 334), (0, u "length"), (3, .methodref 79 512), (0, .nameAndType 513 37), (0, u "checkFromToIndex"), (2, u "codePointCount"), (15, u "getBytes"), (16, .methodref 550 506), (0, .class_ 551), (0, u "java/lang/AbstractStringBuilder"), (0, .methodref 550 553), (0, .nameAndType 554 340), (0, u "getValue"), (20, .class_ 576), (0, u "java/lang/CharSequence"), (22, u "CASE_INSENSITIVE_ORDER"), (0, u "Ljava/util/Comparator;"), (30, u "([B)I"), (4, u "(II)I"), (55, u "isEmpty"), (89, u "valueOf"), (0, u "(C)Ljava/lang/String;"), (37, u "([BIB)V"), (54, .methodref 10 877), (0, .nameAndType 878 334), (0, u "indexOfNonWhitespace"), (45, .methodref 107 925), (0, .nameAndType 878 631), (26, u "isBlank"), (57, u "([C)V"), (4, .methodref 107 1016), (0, .nameAndType 1017 369), (0, u "canEncode"), (0, .methodref 107 1019), (0, .nameAndType 53 1020), (0, u "(C)[B"), (26, .methodref 550 493), (5, .fieldref 1054 1055), (0, .class_ 1056), (0, .nameAndType 1057 1058), (0, u "jdk/internal/util/Preconditions"), (0, u "SIOOBE_FORMATTER"), (0, u "Ljava/util/function/BiFunction;"), (0, .methodref 1054 1060), (0, .nameAndType 501 1061), (0, u "(IILjava/util/function/BiFunction;)I"), (39, u "serialPersistentFields"), (0, u "[Ljava/io/ObjectStreamField;"), (0, .class_ 1104), (0, u "java/lang/String$CaseInsensitiveComparator"), (1, .class_ 1107), (0, u "java/io/Serializable"), (0, .class_ 1109), (0, u "java/lang/Comparable"), (0, .class_ 1111), (0, u "java/lang/constant/Constable"), (0, .class_ 1113), (0, u "java/lang/constant/ConstantDesc"), (2, u "serialVersionUID"), (0, u "J"), (3, u "REPL"), (0, u "C"), (2, u "LATIN1"), (1, u "UTF16"), (105, u "(Ljava/lang/StringBuilder;)V")] 217

def k7m0 : Method := { name := "<init>", desc := "()V", sig := { parameters := [], returnType := none }, accessFlags := 1, code := none }
def k7c1 : Code := { maxStack := 5, maxLocals := 2, code := jdk_42_method_3_code, exceptionTable := #[], attributes := #[] }
def k7m1 : Method := { name := "<init>", desc := "([C)V", sig := { parameters := [(.array .char)], returnType := none }, accessFlags := 1, code := some k7c1 }
def k7c2 : Code := { maxStack := 3, maxLocals := 2, code := jdk_42_method_53_code, exceptionTable := #[], attributes := #[] }
def k7m2 : Method := { name := "<init>", desc := "(Ljava/lang/StringBuilder;)V", sig := { parameters := [(.object "java/lang/StringBuilder")], returnType := none }, accessFlags := 1, code := some k7c2 }
def k7c3 : Code := { maxStack := 2, maxLocals := 1, code := jdk_42_method_54_code, exceptionTable := #[], attributes := #[] }
def k7m3 : Method := { name := "length", desc := "()I", sig := { parameters := [], returnType := some .int }, accessFlags := 1, code := some k7c3 }
def k7c4 : Code := { maxStack := 1, maxLocals := 1, code := jdk_42_method_55_code, exceptionTable := #[], attributes := #[] }
def k7m4 : Method := { name := "isEmpty", desc := "()Z", sig := { parameters := [], returnType := some .boolean }, accessFlags := 1, code := some k7c4 }
def k7c5 : Code := { maxStack := 2, maxLocals := 2, code := jdk_42_method_56_code, exceptionTable := #[], attributes := #[] }
def k7m5 : Method := { name := "charAt", desc := "(I)C", sig := { parameters := [.int], returnType := some .char }, accessFlags := 1, code := some k7c5 }
def k7c6 : Code := { maxStack := 3, maxLocals := 3, code := jdk_42_method_59_code, exceptionTable := #[], attributes := #[] }
def k7m6 : Method := { name := "codePointCount", desc := "(II)I", sig := { parameters := [.int, .int], returnType := some .int }, accessFlags := 1, code := some k7c6 }
def k7c7 : Code := { maxStack := 2, maxLocals := 1, code := jdk_42_method_117_code, exceptionTable := #[], attributes := #[] }
def k7m7 : Method := { name := "isBlank", desc := "()Z", sig := { parameters := [], returnType := some .boolean }, accessFlags := 1, code := some k7c7 }
def k7c8 : Code := { maxStack := 1, maxLocals := 1, code := jdk_42_method_120_code, exceptionTable := #[], attributes := #[] }
def k7m8 : Method := { name := "indexOfNonWhitespace", desc := "()I", sig := { parameters := [], returnType := some .int }, accessFlags := 2, code := some k7c8 }
def k7c9 : Code := { maxStack := 4, maxLocals := 1, code := jdk_42_method_139_code, exceptionTable := #[], attributes := #[] }
def k7m9 : Method := { name := "valueOf", desc := "(C)Ljava/lang/String;", sig := { parameters := [.char], returnType := some (.object "java/lang/String") }, accessFlags := 9, code := some k7c9 }
def k7c10 : Code := { maxStack := 5, maxLocals := 4, code := jdk_42_method_147_code, exceptionTable := #[], attributes := #[] }
def k7m10 : Method := { name := "getBytes", desc := "([BIB)V", sig := { parameters := [(.array .byte), .int, .byte], returnType := none }, accessFlags := 0, code := some k7c10 }
def k7c11 : Code := { maxStack := 4, maxLocals := 6, code := jdk_42_method_149_code, exceptionTable := #[], attributes := #[] }
def k7m11 : Method := { name := "<init>", desc := "([CIILjava/lang/Void;)V", sig := { parameters := [(.array .char), .int, .int, (.object "java/lang/Void")], returnType := none }, accessFlags := 2, code := some k7c11 }
def k7c12 : Code := { maxStack := 5, maxLocals := 5, code := jdk_42_method_150_code, exceptionTable := #[], attributes := #[] }
def k7m12 : Method := { name := "<init>", desc := "(Ljava/lang/AbstractStringBuilder;Ljava/lang/Void;)V", sig := { parameters := [(.object "java/lang/AbstractStringBuilder"), (.object "java/lang/Void")], returnType := none }, accessFlags := 0, code := some k7c12 }
def k7c13 : Code := { maxStack := 2, maxLocals := 3, code := jdk_42_method_151_code, exceptionTable := #[], attributes := #[] }
def k7m13 : Method := { name := "<init>", desc := "([BB)V", sig := { parameters := [(.array .byte), .byte], returnType := none }, accessFlags := 0, code := some k7c13 }
def k7c14 : Code := { maxStack := 1, maxLocals := 1, code := jdk_42_method_152_code, exceptionTable := #[], attributes := #[] }
def k7m14 : Method := { name := "coder", desc := "()B", sig := { parameters := [], returnType := some .byte }, accessFlags := 0, code := some k7c14 }
def k7c15 : Code := { maxStack := 1, maxLocals := 1, code := jdk_42_method_154_code, exceptionTable := #[], attributes := #[] }
def k7m15 : Method := { name := "isLatin1", desc := "()Z", sig := { parameters := [], returnType := some .boolean }, accessFlags := 0, code := some k7c15 }
def k7c16 : Code := { maxStack := 3, maxLocals := 2, code := jdk_42_method_155_code, exceptionTable := #[], attributes := #[] }
def k7m16 : Method := { name := "checkIndex", desc := "(II)V", sig := { parameters := [.int, .int], returnType := none }, accessFlags := 8, code := some k7c16 }
/-- java/lang/String -/
def k7 : Class := { plain "java/lang/String" (some 0) with
  accessFlags := 49
  interfaces := #[2, 3, 4, 5, 6]
  cf := some (fileOf pool7 10 #[.nestMembers #[1103]] #[{ accessFlags := 1, nameIndex := 5, descriptorIndex := 6, attributes := #[] }, { accessFlags := 1, nameIndex := 5, descriptorIndex := 1010, attributes := #[] }, { accessFlags := 1, nameIndex := 5, descriptorIndex := 1233, attributes := #[] }, { accessFlags := 1, nameIndex := 507, descriptorIndex := 334, attributes := #[] }, { accessFlags := 1, nameIndex := 692, descriptorIndex := 142, attributes := #[] }, { accessFlags := 1, nameIndex := 497, descriptorIndex := 427, attributes := #[] }, { accessFlags := 1, nameIndex := 516, descriptorIndex := 636, attributes := #[] }, { accessFlags := 1, nameIndex := 952, descriptorIndex := 142, attributes := #[] }, { accessFlags := 2, nameIndex := 878, descriptorIndex := 334, attributes := #[] }, { accessFlags := 9, nameIndex := 782, descriptorIndex := 783, attributes := #[] }, { accessFlags := 0, nameIndex := 532, descriptorIndex := 821, attributes := #[] }, { accessFlags := 2, nameIndex := 5, descriptorIndex := 29, attributes := #[] }, { accessFlags := 0, nameIndex := 5, descriptorIndex := 491, attributes := #[] }, { accessFlags := 0, nameIndex := 5, descriptorIndex := 211, attributes := #[] }, { accessFlags := 0, nameIndex := 17, descriptorIndex := 337, attributes := #[] }, { accessFlags := 0, nameIndex := 494, descriptorIndex := 142, attributes := #[] }, { accessFlags := 8, nameIndex := 501, descriptorIndex := 391, attributes := #[] }] 49 2 #[1106, 1108, 575, 1110, 1112] #[{ accessFlags := 18, nameIndex := 13, descriptorIndex := 14, attributes := #[] }, { accessFlags := 18, nameIndex := 17, descriptorIndex := 18, attributes := #[] }, { accessFlags := 2, nameIndex := 21, descriptorIndex := 22, attributes := #[] }, { accessFlags := 2, nameIndex := 25, descriptorIndex := 26, attributes := #[] }, { accessFlags := 26, nameIndex := 1116, descriptorIndex := 1117, attributes := #[] }, { accessFlags := 24, nameIndex := 40, descriptorIndex := 26, attributes := #[] }, { accessFlags := 26, nameIndex := 1101, descriptorIndex := 1102, attributes := #[] }, { accessFlags := 26, nameIndex := 1121, descriptorIndex := 1122, attributes := #[] }, { accessFlags := 25, nameIndex := 599, descriptorIndex := 600, attributes := #[] }, { accessFlags := 24, nameIndex := 1125, descriptorIndex := 18, attributes := #[] }, { accessFlags := 24, nameIndex := 1127, descriptorIndex := 18, attributes := #[] }])
  fields := #[{ name := "value", type := (.array .byte), accessFlags := 18, slot := 0, constantValue := 0 }, { name := "coder", type := .byte, accessFlags := 18, slot := 1, constantValue := 0 }, { name := "hash", type := .int, accessFlags := 2, slot := 2, constantValue := 0 }, { name := "hashIsZero", type := .boolean, accessFlags := 2, slot := 3, constantValue := 0 }, { name := "serialVersionUID", type := .long, accessFlags := 26, slot := 0, constantValue := 0 }, { name := "COMPACT_STRINGS", type := .boolean, accessFlags := 24, slot := 1, constantValue := 0 }, { name := "serialPersistentFields", type := (.array (.object "java/io/ObjectStreamField")), accessFlags := 26, slot := 2, constantValue := 0 }, { name := "REPL", type := .char, accessFlags := 26, slot := 3, constantValue := 0 }, { name := "CASE_INSENSITIVE_ORDER", type := (.object "java/util/Comparator"), accessFlags := 25, slot := 4, constantValue := 0 }, { name := "LATIN1", type := .byte, accessFlags := 24, slot := 5, constantValue := 0 }, { name := "UTF16", type := .byte, accessFlags := 24, slot := 6, constantValue := 0 }]
  methods := #[k7m0, k7m1, k7m2, k7m3, k7m4, k7m5, k7m6, k7m7, k7m8, k7m9, k7m10, k7m11, k7m12, k7m13, k7m14, k7m15, k7m16]
  instanceTypes := #[(.array .byte), .byte, .int, .boolean]
  staticTypes := #[.long, .boolean, (.array (.object "java/io/ObjectStreamField")), .char, (.object "java/util/Comparator"), .byte, .byte]
  resolved := Array.replicate 1451 none
  statics := some 0 }

def pool8 : Array CpInfo := pool [(6, .class_ 8), (1, u "java/lang/Object"), (0, u "<init>"), (0, u "()V"), (1, .class_ 14), (1, u "java/lang/StringUTF16"), (31, u "$assertionsDisabled"), (0, u "Z"), (13, u "HI_BYTE_SHIFT"), (0, u "I"), (2, u "LO_BYTE_SHIFT"), (49, .methodref 12 116), (0, .nameAndType 117 118), (0, u "compress"), (0, u "([CI[BII)I"), (3, u "([CII)[B"), (138, u "coderFromArrayLen"), (0, u "([BI)B"), (106, .class_ 371), (1, u "java/lang/StringUTF16$LinesSpliterator"), (58, u "MAX_LENGTH"), (196, .class_ 628), (0, u "java/lang/StringUTF16$CodePointsSpliterator"), (0, .class_ 630), (0, u "java/lang/StringUTF16$CharsSpliterator")] 4

def k8m0 : Method := { name := "<init>", desc := "()V", sig := { parameters := [], returnType := none }, accessFlags := 0, code := none }
def k8c1 : Code := { maxStack := 2, maxLocals := 2, code := jdk_52_method_15_code, exceptionTable := #[], attributes := #[] }
def k8m1 : Method := { name := "coderFromArrayLen", desc := "([BI)B", sig := { parameters := [(.array .byte), .int], returnType := some .byte }, accessFlags := 8, code := some k8c1 }
def k8c2 : Code := { maxStack := 5, maxLocals := 6, code := jdk_52_method_16_code, exceptionTable := #[], attributes := #[] }
def k8m2 : Method := { name := "compress", desc := "([CII)[B", sig := { parameters := [(.array .char), .int, .int], returnType := some (.array .byte) }, accessFlags := 9, code := some k8c2 }
def k8c3 : Code := { maxStack := 3, maxLocals := 7, code := jdk_52_method_21_code, exceptionTable := #[], attributes := #[] }
def k8m3 : Method := { name := "compress", desc := "([CI[BII)I", sig := { parameters := [(.array .char), .int, (.array .byte), .int, .int], returnType := some .int }, accessFlags := 9, code := some k8c3 }
/-- java/lang/StringUTF16 -/
def k8 : Class := { plain "java/lang/StringUTF16" (some 0) with
  accessFlags := 48
  interfaces := #[]
  cf := some (fileOf pool8 12 #[.nestMembers #[627, 629, 369]] #[{ accessFlags := 0, nameIndex := 9, descriptorIndex := 10, attributes := #[] }, { accessFlags := 8, nameIndex := 261, descriptorIndex := 262, attributes := #[] }, { accessFlags := 9, nameIndex := 117, descriptorIndex := 122, attributes := #[] }, { accessFlags := 9, nameIndex := 117, descriptorIndex := 118, attributes := #[] }] 48 6 #[] #[{ accessFlags := 26, nameIndex := 61, descriptorIndex := 62, attributes := #[] }, { accessFlags := 26, nameIndex := 65, descriptorIndex := 62, attributes := #[] }, { accessFlags := 24, nameIndex := 430, descriptorIndex := 62, attributes := #[] }, { accessFlags := 4120, nameIndex := 46, descriptorIndex := 47, attributes := #[] }])
  fields := #[{ name := "HI_BYTE_SHIFT", type := .int, accessFlags := 26, slot := 0, constantValue := 0 }, { name := "LO_BYTE_SHIFT", type := .int, accessFlags := 26, slot := 1, constantValue := 0 }, { name := "MAX_LENGTH", type := .int, accessFlags := 24, slot := 2, constantValue := 0 }, { name := "$assertionsDisabled", type := .boolean, accessFlags := 4120, slot := 3, constantValue := 0 }]
  methods := #[k8m0, k8m1, k8m2, k8m3]
  instanceTypes := #[]
  staticTypes := #[.int, .int, .int, .boolean]
  resolved := Array.replicate 635 none
  statics := none }

def pool9 : Array CpInfo := pool [(1, .methodref 2 3), (0, .class_ 4), (0, .nameAndType 5 6), (0, u "java/lang/Object"), (0, u "<init>"), (0, u "()V"), (0, .class_ 8), (0, u "java/lang/Record")] 13

def k9c0 : Code := { maxStack := 1, maxLocals := 1, code := jdk_30_method_1_code, exceptionTable := #[], attributes := #[] }
def k9m0 : Method := { name := "<init>", desc := "()V", sig := { parameters := [], returnType := none }, accessFlags := 4, code := some k9c0 }
/-- java/lang/Record -/
def k9 : Class := { plain "java/lang/Record" (some 0) with
  accessFlags := 1057
  interfaces := #[]
  cf := some (fileOf pool9 7 #[] #[{ accessFlags := 4, nameIndex := 5, descriptorIndex := 6, attributes := #[] }] 1057 2 #[] #[])
  fields := #[]
  methods := #[k9m0]
  instanceTypes := #[]
  staticTypes := #[]
  resolved := Array.replicate 22 none
  statics := none }

def pool10 : Array CpInfo := pool [(1, .methodref 2 3), (0, .class_ 4), (0, .nameAndType 5 6), (0, u "java/lang/Record"), (0, u "<init>"), (0, u "()V"), (0, .string 8), (0, u "bind"), (0, .methodref 10 11), (0, .class_ 12), (0, .nameAndType 13 14), (0, u "java/util/Objects"), (0, u "requireNonNull"), (0, u "(Ljava/lang/Object;Ljava/lang/String;)Ljava/lang/Object;"), (0, .string 16), (0, u "user"), (0, .string 18), (0, u "password"), (0, .methodref 20 21), (0, .class_ 22), (0, .nameAndType 23 24), (0, u "java/lang/String"), (0, u "isBlank"), (0, u "()Z"), (7, .integer 65535), (0, .class_ 34), (0, u "java/lang/StringBuilder"), (0, .methodref 33 3), (2, .methodref 33 39), (0, .nameAndType 40 41), (0, u "append"), (0, u "(Ljava/lang/String;)Ljava/lang/StringBuilder;"), (0, .methodref 33 43), (0, .nameAndType 40 44), (0, u "(I)Ljava/lang/StringBuilder;"), (2, .methodref 33 48), (0, .nameAndType 49 50), (0, u "toString"), (0, u "()Ljava/lang/String;"), (0, .methodref 20 52), (0, .nameAndType 53 24), (0, u "isEmpty"), (2, .methodref 57 58), (0, .class_ 59), (0, .nameAndType 60 61), (0, u "com/example/orderly_tasks/orderlytasks/ConsoleSettings"), (0, u "longEnough"), (0, u "(Ljava/lang/String;)Z"), (2, .fieldref 57 65), (0, .nameAndType 8 66), (0, u "Ljava/lang/String;"), (0, .fieldref 57 68), (0, .nameAndType 69 70), (0, u "port"), (0, u "I"), (0, .fieldref 57 72), (0, .nameAndType 16 66), (0, .fieldref 57 74), (0, .nameAndType 18 66), (0, .methodref 20 76), (0, .nameAndType 77 78), (0, u "length"), (0, u "()I"), (0, .methodref 20 80), (0, .nameAndType 81 82), (0, u "codePointCount"), (0, u "(II)I"), (0, .string 84), (0, u "ConsoleSettings[bind="), (0, .string 86), (0, u ", port="), (0, .string 88), (0, u ", user="), (0, .string 90), (0, u "]"), (8, u "DEFAULT_BIND"), (3, u "MIN_PASSWORD_LENGTH"), (1, u "(Ljava/lang/String;ILjava/lang/String;Ljava/lang/String;)V")] 28

def k10c0 : Code := { maxStack := 4, maxLocals := 5, code := prog_1_method_1_code, exceptionTable := #[], attributes := #[] }
def k10m0 : Method := { name := "<init>", desc := "(Ljava/lang/String;ILjava/lang/String;Ljava/lang/String;)V", sig := { parameters := [(.object "java/lang/String"), .int, (.object "java/lang/String"), (.object "java/lang/String")], returnType := none }, accessFlags := 1, code := some k10c0 }
def k10c1 : Code := { maxStack := 3, maxLocals := 1, code := prog_1_method_2_code, exceptionTable := #[], attributes := #[] }
def k10m1 : Method := { name := "longEnough", desc := "(Ljava/lang/String;)Z", sig := { parameters := [(.object "java/lang/String")], returnType := some .boolean }, accessFlags := 9, code := some k10c1 }
def k10c2 : Code := { maxStack := 2, maxLocals := 1, code := prog_1_method_3_code, exceptionTable := #[], attributes := #[] }
def k10m2 : Method := { name := "toString", desc := "()Ljava/lang/String;", sig := { parameters := [], returnType := some (.object "java/lang/String") }, accessFlags := 1, code := some k10c2 }
/-- com/example/orderly_tasks/orderlytasks/ConsoleSettings -/
def k10 : Class := { plain "com/example/orderly_tasks/orderlytasks/ConsoleSettings" (some 9) with
  accessFlags := 49
  interfaces := #[]
  cf := some (fileOf pool10 57 #[] #[{ accessFlags := 1, nameIndex := 5, descriptorIndex := 105, attributes := #[] }, { accessFlags := 9, nameIndex := 60, descriptorIndex := 61, attributes := #[] }, { accessFlags := 1, nameIndex := 49, descriptorIndex := 50, attributes := #[] }] 49 2 #[] #[{ accessFlags := 18, nameIndex := 8, descriptorIndex := 66, attributes := #[] }, { accessFlags := 18, nameIndex := 69, descriptorIndex := 70, attributes := #[] }, { accessFlags := 18, nameIndex := 16, descriptorIndex := 66, attributes := #[] }, { accessFlags := 18, nameIndex := 18, descriptorIndex := 66, attributes := #[] }, { accessFlags := 25, nameIndex := 99, descriptorIndex := 66, attributes := #[] }, { accessFlags := 25, nameIndex := 103, descriptorIndex := 70, attributes := #[] }])
  fields := #[{ name := "bind", type := (.object "java/lang/String"), accessFlags := 18, slot := 0, constantValue := 0 }, { name := "port", type := .int, accessFlags := 18, slot := 1, constantValue := 0 }, { name := "user", type := (.object "java/lang/String"), accessFlags := 18, slot := 2, constantValue := 0 }, { name := "password", type := (.object "java/lang/String"), accessFlags := 18, slot := 3, constantValue := 0 }, { name := "DEFAULT_BIND", type := (.object "java/lang/String"), accessFlags := 25, slot := 0, constantValue := 0 }, { name := "MIN_PASSWORD_LENGTH", type := .int, accessFlags := 25, slot := 1, constantValue := 0 }]
  methods := #[k10m0, k10m1, k10m2]
  instanceTypes := #[(.object "java/lang/String"), .int, (.object "java/lang/String"), (.object "java/lang/String")]
  staticTypes := #[(.object "java/lang/String"), .int]
  resolved := Array.replicate 134 none
  statics := none }

def pool11 : Array CpInfo := pool [(2, .class_ 4), (1, u "java/lang/Object"), (0, u "<init>"), (0, u "()V"), (35, .class_ 44), (1, u "java/util/Objects"), (0, u "requireNonNull"), (48, u "(Ljava/lang/Object;Ljava/lang/String;)Ljava/lang/Object;"), (11, .class_ 108), (1, u "jdk/internal/util/Preconditions"), (2, .methodref 106 112), (0, .nameAndType 113 114), (0, u "checkFromToIndex"), (0, u "(IIILjava/util/function/BiFunction;)I"), (60, u "(III)I")] 8

def k11m0 : Method := { name := "<init>", desc := "()V", sig := { parameters := [], returnType := none }, accessFlags := 2, code := none }
def k11c1 : Code := { maxStack := 3, maxLocals := 2, code := jdk_31_method_11_code, exceptionTable := #[], attributes := #[] }
def k11m1 : Method := { name := "requireNonNull", desc := "(Ljava/lang/Object;Ljava/lang/String;)Ljava/lang/Object;", sig := { parameters := [(.object "java/lang/Object"), (.object "java/lang/String")], returnType := some (.object "java/lang/Object") }, accessFlags := 9, code := some k11c1 }
def k11c2 : Code := { maxStack := 4, maxLocals := 3, code := jdk_31_method_18_code, exceptionTable := #[], attributes := #[] }
def k11m2 : Method := { name := "checkFromToIndex", desc := "(III)I", sig := { parameters := [.int, .int, .int], returnType := some .int }, accessFlags := 9, code := some k11c2 }
/-- java/util/Objects -/
def k11 : Class := { plain "java/util/Objects" (some 0) with
  accessFlags := 49
  interfaces := #[]
  cf := some (fileOf pool11 42 #[] #[{ accessFlags := 2, nameIndex := 5, descriptorIndex := 6, attributes := #[] }, { accessFlags := 9, nameIndex := 45, descriptorIndex := 94, attributes := #[] }, { accessFlags := 9, nameIndex := 113, descriptorIndex := 175, attributes := #[] }] 49 2 #[] #[])
  fields := #[]
  methods := #[k11m0, k11m1, k11m2]
  instanceTypes := #[]
  staticTypes := #[]
  resolved := Array.replicate 184 none
  statics := none }

def pool12 : Array CpInfo := pool [(1, .class_ 2), (0, u "java/lang/String"), (1, .class_ 6), (1, u "java/lang/Object"), (0, u "<init>"), (0, u "()V"), (0, .methodref 1 10), (0, .nameAndType 11 12), (0, u "checkIndex"), (0, u "(II)V"), (1, .class_ 16), (1, u "java/lang/StringLatin1"), (33, .methodref 14 51), (0, .nameAndType 52 53), (0, u "getChar"), (0, u "([BI)C"), (3, u "([B)I"), (8, .fieldref 67 68), (0, .class_ 69), (0, .nameAndType 70 71), (0, u "java/lang/CharacterDataLatin1"), (0, u "instance"), (0, u "Ljava/lang/CharacterDataLatin1;"), (18, u "canEncode"), (0, u "(I)Z"), (13, u "(C)Z"), (15, u "$assertionsDisabled"), (0, u "Z"), (88, .methodref 67 212), (0, .nameAndType 213 91), (0, u "isWhitespace"), (2, u "indexOfNonWhitespace"), (4, .class_ 223), (1, u "java/lang/StringLatin1$LinesSpliterator"), (28, u "charAt"), (127, u "toBytes"), (1, u "(C)[B"), (7, .class_ 391), (0, u "java/lang/StringLatin1$CharsSpliterator")] 3

def k12m0 : Method := { name := "<init>", desc := "()V", sig := { parameters := [], returnType := none }, accessFlags := 0, code := none }
def k12c1 : Code := { maxStack := 2, maxLocals := 2, code := jdk_43_method_2_code, exceptionTable := #[], attributes := #[] }
def k12m1 : Method := { name := "charAt", desc := "([BI)C", sig := { parameters := [(.array .byte), .int], returnType := some .char }, accessFlags := 9, code := some k12c1 }
def k12c2 : Code := { maxStack := 2, maxLocals := 1, code := jdk_43_method_3_code, exceptionTable := #[], attributes := #[] }
def k12m2 : Method := { name := "canEncode", desc := "(C)Z", sig := { parameters := [.char], returnType := some .boolean }, accessFlags := 9, code := some k12c2 }
def k12c3 : Code := { maxStack := 2, maxLocals := 4, code := jdk_43_method_37_code, exceptionTable := #[], attributes := #[] }
def k12m3 : Method := { name := "indexOfNonWhitespace", desc := "([B)I", sig := { parameters := [(.array .byte)], returnType := some .int }, accessFlags := 9, code := some k12c3 }
def k12c4 : Code := { maxStack := 2, maxLocals := 2, code := jdk_43_method_44_code, exceptionTable := #[], attributes := #[] }
def k12m4 : Method := { name := "getChar", desc := "([BI)C", sig := { parameters := [(.array .byte), .int], returnType := some .char }, accessFlags := 9, code := some k12c4 }
def k12c5 : Code := { maxStack := 4, maxLocals := 1, code := jdk_43_method_46_code, exceptionTable := #[], attributes := #[] }
def k12m5 : Method := { name := "toBytes", desc := "(C)[B", sig := { parameters := [.char], returnType := some (.array .byte) }, accessFlags := 9, code := some k12c5 }
/-- java/lang/StringLatin1 -/
def k12 : Class := { plain "java/lang/StringLatin1" (some 0) with
  accessFlags := 48
  interfaces := #[]
  cf := some (fileOf pool12 14 #[.nestMembers #[390, 221]] #[{ accessFlags := 0, nameIndex := 7, descriptorIndex := 8, attributes := #[] }, { accessFlags := 9, nameIndex := 252, descriptorIndex := 53, attributes := #[] }, { accessFlags := 9, nameIndex := 90, descriptorIndex := 105, attributes := #[] }, { accessFlags := 9, nameIndex := 216, descriptorIndex := 57, attributes := #[] }, { accessFlags := 9, nameIndex := 52, descriptorIndex := 53, attributes := #[] }, { accessFlags := 9, nameIndex := 380, descriptorIndex := 382, attributes := #[] }] 48 4 #[] #[{ accessFlags := 4120, nameIndex := 121, descriptorIndex := 122, attributes := #[] }])
  fields := #[{ name := "$assertionsDisabled", type := .boolean, accessFlags := 4120, slot := 0, constantValue := 0 }]
  methods := #[k12m0, k12m1, k12m2, k12m3, k12m4, k12m5]
  instanceTypes := #[]
  staticTypes := #[.boolean]
  resolved := Array.replicate 395 none
  statics := none }

def pool13 : Array CpInfo := pool [(2, .class_ 4), (1, u "java/lang/Object"), (0, u "<init>"), (0, u "()V"), (1, .class_ 10), (1, u "java/lang/CharacterData")] 75

def k13m0 : Method := { name := "<init>", desc := "()V", sig := { parameters := [], returnType := none }, accessFlags := 0, code := none }
/-- java/lang/CharacterData -/
def k13 : Class := { plain "java/lang/CharacterData" (some 0) with
  accessFlags := 1056
  interfaces := #[]
  cf := some (fileOf pool13 8 #[] #[{ accessFlags := 0, nameIndex := 5, descriptorIndex := 6, attributes := #[] }] 1056 2 #[] #[])
  fields := #[]
  methods := #[k13m0]
  instanceTypes := #[]
  staticTypes := #[]
  resolved := Array.replicate 86 none
  statics := none }

def pool14 : Array CpInfo := pool [(1, .fieldref 2 3), (0, .class_ 4), (0, .nameAndType 5 6), (0, u "java/lang/CharacterDataLatin1"), (0, u "A"), (0, u "[I"), (2, u "B"), (0, u "[C"), (3, u "(I)I"), (0, .methodref 2 16), (0, .nameAndType 17 14), (0, u "getProperties"), (3, u "(I)Z"), (5, u "DIGITS"), (0, u "[B"), (8, u "sharpsMap"), (1, .class_ 41), (1, u "java/lang/CharacterData"), (0, u "<init>"), (0, u "()V"), (3, u "instance"), (0, u "Ljava/lang/CharacterDataLatin1;"), (78, u "isWhitespace")] 13

def k14c0 : Code := { maxStack := 2, maxLocals := 4, code := jdk_116_method_1_code, exceptionTable := #[], attributes := #[] }
def k14m0 : Method := { name := "getProperties", desc := "(I)I", sig := { parameters := [.int], returnType := some .int }, accessFlags := 0, code := some k14c0 }
def k14c1 : Code := { maxStack := 2, maxLocals := 3, code := jdk_116_method_26_code, exceptionTable := #[], attributes := #[] }
def k14m1 : Method := { name := "isWhitespace", desc := "(I)Z", sig := { parameters := [.int], returnType := some .boolean }, accessFlags := 0, code := some k14c1 }
def k14m2 : Method := { name := "<init>", desc := "()V", sig := { parameters := [], returnType := none }, accessFlags := 2, code := none }
/-- java/lang/CharacterDataLatin1 -/
def k14 : Class := { plain "java/lang/CharacterDataLatin1" (some 13) with
  accessFlags := 32
  interfaces := #[]
  cf := some (fileOf pool14 2 #[] #[{ accessFlags := 0, nameIndex := 17, descriptorIndex := 14, attributes := #[] }, { accessFlags := 0, nameIndex := 127, descriptorIndex := 21, attributes := #[] }, { accessFlags := 2, nameIndex := 42, descriptorIndex := 43, attributes := #[] }] 32 39 #[] #[{ accessFlags := 26, nameIndex := 27, descriptorIndex := 28, attributes := #[] }, { accessFlags := 8, nameIndex := 37, descriptorIndex := 10, attributes := #[] }, { accessFlags := 24, nameIndex := 47, descriptorIndex := 48, attributes := #[] }, { accessFlags := 24, nameIndex := 5, descriptorIndex := 6, attributes := #[] }, { accessFlags := 24, nameIndex := 9, descriptorIndex := 10, attributes := #[] }])
  fields := #[{ name := "DIGITS", type := (.array .byte), accessFlags := 26, slot := 0, constantValue := 0 }, { name := "sharpsMap", type := (.array .char), accessFlags := 8, slot := 1, constantValue := 0 }, { name := "instance", type := (.object "java/lang/CharacterDataLatin1"), accessFlags := 24, slot := 2, constantValue := 0 }, { name := "A", type := (.array .int), accessFlags := 24, slot := 3, constantValue := 0 }, { name := "B", type := (.array .char), accessFlags := 24, slot := 4, constantValue := 0 }]
  methods := #[k14m0, k14m1, k14m2]
  instanceTypes := #[]
  staticTypes := #[(.array .byte), (.array .char), (.object "java/lang/CharacterDataLatin1"), (.array .int), (.array .char)]
  resolved := Array.replicate 141 none
  statics := some 1 }

def pool15 : Array CpInfo := pool [(2, .class_ 4), (1, u "java/lang/Object"), (0, u "<init>"), (0, u "()V"), (17, .class_ 26), (1, u "jdk/internal/util/Preconditions"), (6, u "checkIndex"), (13, u "checkFromToIndex"), (7, .class_ 56), (0, u "jdk/internal/util/Preconditions$4"), (57, .class_ 115), (0, u "jdk/internal/util/Preconditions$1"), (7, u "SIOOBE_FORMATTER"), (0, u "Ljava/util/function/BiFunction;"), (0, .class_ 126), (0, u "jdk/internal/util/Preconditions$2"), (3, u "AIOOBE_FORMATTER"), (0, .class_ 132), (0, u "jdk/internal/util/Preconditions$3"), (3, u "IOOBE_FORMATTER"), (41, u "(IILjava/util/function/BiFunction;)I"), (4, u "(IIILjava/util/function/BiFunction;)I")] 10

def k15m0 : Method := { name := "<init>", desc := "()V", sig := { parameters := [], returnType := none }, accessFlags := 1, code := none }
def k15c1 : Code := { maxStack := 3, maxLocals := 3, code := jdk_41_method_11_code, exceptionTable := #[], attributes := #[] }
def k15m1 : Method := { name := "checkIndex", desc := "(IILjava/util/function/BiFunction;)I", sig := { parameters := [.int, .int, (.object "java/util/function/BiFunction")], returnType := some .int }, accessFlags := 9, code := some k15c1 }
def k15c2 : Code := { maxStack := 4, maxLocals := 4, code := jdk_41_method_12_code, exceptionTable := #[], attributes := #[] }
def k15m2 : Method := { name := "checkFromToIndex", desc := "(IIILjava/util/function/BiFunction;)I", sig := { parameters := [.int, .int, .int, (.object "java/util/function/BiFunction")], returnType := some .int }, accessFlags := 9, code := some k15c2 }
/-- jdk/internal/util/Preconditions -/
def k15 : Class := { plain "jdk/internal/util/Preconditions" (some 0) with
  accessFlags := 33
  interfaces := #[]
  cf := some (fileOf pool15 24 #[.nestMembers #[55, 131, 125, 114]] #[{ accessFlags := 1, nameIndex := 5, descriptorIndex := 6, attributes := #[] }, { accessFlags := 9, nameIndex := 33, descriptorIndex := 178, attributes := #[] }, { accessFlags := 9, nameIndex := 47, descriptorIndex := 183, attributes := #[] }] 33 2 #[] #[{ accessFlags := 25, nameIndex := 123, descriptorIndex := 124, attributes := #[] }, { accessFlags := 25, nameIndex := 130, descriptorIndex := 124, attributes := #[] }, { accessFlags := 25, nameIndex := 136, descriptorIndex := 124, attributes := #[] }])
  fields := #[{ name := "SIOOBE_FORMATTER", type := (.object "java/util/function/BiFunction"), accessFlags := 25, slot := 0, constantValue := 0 }, { name := "AIOOBE_FORMATTER", type := (.object "java/util/function/BiFunction"), accessFlags := 25, slot := 1, constantValue := 0 }, { name := "IOOBE_FORMATTER", type := (.object "java/util/function/BiFunction"), accessFlags := 25, slot := 2, constantValue := 0 }]
  methods := #[k15m0, k15m1, k15m2]
  instanceTypes := #[]
  staticTypes := #[(.object "java/util/function/BiFunction"), (.object "java/util/function/BiFunction"), (.object "java/util/function/BiFunction")]
  resolved := Array.replicate 194 none
  statics := some 2 }

def pool16 : Array CpInfo := pool [(1, .class_ 2), (0, u "java/lang/Appendable"), (0, .class_ 4), (0, u "java/lang/Object")] 9

/-- java/lang/Appendable -/
def k16 : Class := { plain "java/lang/Appendable" (some 0) with
  accessFlags := 1537
  interfaces := #[]
  cf := some (fileOf pool16 1 #[] #[] 1537 3 #[] #[])
  fields := #[]
  methods := #[]
  instanceTypes := #[]
  staticTypes := #[]
  resolved := Array.replicate 14 none
  statics := none }

def pool17 : Array CpInfo := pool [(1, .class_ 2), (0, u "java/lang/String"), (0, .methodref 4 5), (0, .class_ 6), (0, .nameAndType 7 8), (0, u "java/lang/Object"), (0, u "<init>"), (0, u "()V"), (1, .class_ 12), (1, u "java/lang/AbstractStringBuilder"), (0, u "EMPTYVALUE"), (0, u "[B"), (0, .fieldref 10 16), (0, .nameAndType 17 14), (0, u "value"), (0, .fieldref 1 19), (0, .nameAndType 20 21), (0, u "COMPACT_STRINGS"), (0, u "Z"), (0, .fieldref 10 23), (0, .nameAndType 24 25), (0, u "coder"), (0, u "B"), (6, .methodref 1 33), (0, .nameAndType 34 35), (0, u "length"), (0, u "()I"), (0, .class_ 37), (0, u "java/lang/Integer"), (1, .integer 2147483647), (0, .methodref 1 41), (0, .nameAndType 24 42), (0, u "()B"), (2, u "append"), (0, u "(Ljava/lang/String;)Ljava/lang/AbstractStringBuilder;"), (1, .class_ 49), (0, u "java/lang/CharSequence"), (19, u "(Ljava/lang/String;)V"), (5, u "maybeLatin1"), (3, .fieldref 10 80), (0, .nameAndType 81 82), (0, u "count"), (0, u "I"), (0, .methodref 10 84), (0, .nameAndType 85 86), (0, u "isLatin1"), (0, u "()Z"), (13, .methodref 10 101), (0, .nameAndType 102 103), (0, u "ensureCapacityInternal"), (0, u "(I)V"), (0, .methodref 10 105), (0, .nameAndType 106 107), (0, u "newCapacity"), (0, u "(I)I"), (0, .methodref 109 110), (0, .class_ 111), (0, .nameAndType 112 113), (0, u "java/util/Arrays"), (0, u "copyOf"), (0, u "([BI)[B"), (0, .methodref 115 116), (0, .class_ 117), (0, .nameAndType 118 119), (0, u "jdk/internal/util/ArraysSupport"), (0, u "newLength"), (0, u "(III)I"), (68, u "getChars"), (19, .methodref 10 209), (0, .nameAndType 210 211), (0, u "putStringAt"), (0, u "(ILjava/lang/String;)V"), (5, u "inflateIfNeededFor"), (2, .nameAndType 221 222), (0, u "getBytes"), (0, u "([BIB)V"), (22, .methodref 36 246), (0, .nameAndType 247 107), (0, u "stringSize"), (0, .methodref 36 249), (0, .nameAndType 188 250), (0, u "(II[B)I"), (146, .methodref 10 398), (0, .nameAndType 217 69), (0, .methodref 1 220), (3, u "()[B"), (40, .class_ 445), (0, u "java/lang/Appendable"), (65, u "(I)Ljava/lang/AbstractStringBuilder;"), (40, u "getValue")] 56

def k17m0 : Method := { name := "<init>", desc := "()V", sig := { parameters := [], returnType := none }, accessFlags := 0, code := none }
def k17c1 : Code := { maxStack := 2, maxLocals := 2, code := jdk_68_method_2_code, exceptionTable := #[], attributes := #[] }
def k17m1 : Method := { name := "<init>", desc := "(I)V", sig := { parameters := [.int], returnType := none }, accessFlags := 0, code := some k17c1 }
def k17c2 : Code := { maxStack := 1, maxLocals := 1, code := jdk_68_method_6_code, exceptionTable := #[], attributes := #[] }
def k17m2 : Method := { name := "length", desc := "()I", sig := { parameters := [], returnType := some .int }, accessFlags := 1, code := some k17c2 }
def k17c3 : Code := { maxStack := 4, maxLocals := 3, code := jdk_68_method_9_code, exceptionTable := #[], attributes := #[] }
def k17m3 : Method := { name := "ensureCapacityInternal", desc := "(I)V", sig := { parameters := [.int], returnType := none }, accessFlags := 2, code := some k17c3 }
def k17c4 : Code := { maxStack := 5, maxLocals := 6, code := jdk_68_method_10_code, exceptionTable := #[], attributes := #[] }
def k17m4 : Method := { name := "newCapacity", desc := "(I)I", sig := { parameters := [.int], returnType := some .int }, accessFlags := 2, code := some k17c4 }
def k17c5 : Code := { maxStack := 3, maxLocals := 3, code := jdk_68_method_22_code, exceptionTable := #[], attributes := #[] }
def k17m5 : Method := { name := "append", desc := "(Ljava/lang/String;)Ljava/lang/AbstractStringBuilder;", sig := { parameters := [(.object "java/lang/String")], returnType := some (.object "java/lang/AbstractStringBuilder") }, accessFlags := 1, code := some k17c5 }
def k17c6 : Code := { maxStack := 4, maxLocals := 4, code := jdk_68_method_32_code, exceptionTable := #[], attributes := #[] }
def k17m6 : Method := { name := "append", desc := "(I)Ljava/lang/AbstractStringBuilder;", sig := { parameters := [.int], returnType := some (.object "java/lang/AbstractStringBuilder") }, accessFlags := 1, code := some k17c6 }
def k17c7 : Code := { maxStack := 1, maxLocals := 1, code := jdk_68_method_64_code, exceptionTable := #[], attributes := #[] }
def k17m7 : Method := { name := "getValue", desc := "()[B", sig := { parameters := [], returnType := some (.array .byte) }, accessFlags := 16, code := some k17c7 }
def k17c8 : Code := { maxStack := 1, maxLocals := 1, code := jdk_68_method_68_code, exceptionTable := #[], attributes := #[] }
def k17m8 : Method := { name := "isLatin1", desc := "()Z", sig := { parameters := [], returnType := some .boolean }, accessFlags := 16, code := some k17c8 }
def k17c9 : Code := { maxStack := 2, maxLocals := 2, code := jdk_68_method_71_code, exceptionTable := #[], attributes := #[] }
def k17m9 : Method := { name := "inflateIfNeededFor", desc := "(Ljava/lang/String;)V", sig := { parameters := [(.object "java/lang/String")], returnType := none }, accessFlags := 2, code := some k17c9 }
def k17c10 : Code := { maxStack := 4, maxLocals := 3, code := jdk_68_method_73_code, exceptionTable := #[], attributes := #[] }
def k17m10 : Method := { name := "putStringAt", desc := "(ILjava/lang/String;)V", sig := { parameters := [.int, (.object "java/lang/String")], returnType := none }, accessFlags := 2, code := some k17c10 }
/-- java/lang/AbstractStringBuilder -/
def k17 : Class := { plain "java/lang/AbstractStringBuilder" (some 0) with
  accessFlags := 1056
  interfaces := #[16, 4]
  cf := some (fileOf pool17 10 #[] #[{ accessFlags := 0, nameIndex := 7, descriptorIndex := 8, attributes := #[] }, { accessFlags := 0, nameIndex := 7, descriptorIndex := 103, attributes := #[] }, { accessFlags := 1, nameIndex := 34, descriptorIndex := 35, attributes := #[] }, { accessFlags := 2, nameIndex := 102, descriptorIndex := 103, attributes := #[] }, { accessFlags := 2, nameIndex := 106, descriptorIndex := 107, attributes := #[] }, { accessFlags := 1, nameIndex := 45, descriptorIndex := 46, attributes := #[] }, { accessFlags := 1, nameIndex := 45, descriptorIndex := 511, attributes := #[] }, { accessFlags := 16, nameIndex := 552, descriptorIndex := 403, attributes := #[] }, { accessFlags := 16, nameIndex := 85, descriptorIndex := 86, attributes := #[] }, { accessFlags := 2, nameIndex := 217, descriptorIndex := 69, attributes := #[] }, { accessFlags := 2, nameIndex := 210, descriptorIndex := 211, attributes := #[] }] 1056 4 #[444, 48] #[{ accessFlags := 0, nameIndex := 17, descriptorIndex := 14, attributes := #[] }, { accessFlags := 0, nameIndex := 24, descriptorIndex := 25, attributes := #[] }, { accessFlags := 0, nameIndex := 75, descriptorIndex := 21, attributes := #[] }, { accessFlags := 0, nameIndex := 81, descriptorIndex := 82, attributes := #[] }, { accessFlags := 26, nameIndex := 13, descriptorIndex := 14, attributes := #[] }])
  fields := #[{ name := "value", type := (.array .byte), accessFlags := 0, slot := 0, constantValue := 0 }, { name := "coder", type := .byte, accessFlags := 0, slot := 1, constantValue := 0 }, { name := "maybeLatin1", type := .boolean, accessFlags := 0, slot := 2, constantValue := 0 }, { name := "count", type := .int, accessFlags := 0, slot := 3, constantValue := 0 }, { name := "EMPTYVALUE", type := (.array .byte), accessFlags := 26, slot := 0, constantValue := 0 }]
  methods := #[k17m0, k17m1, k17m2, k17m3, k17m4, k17m5, k17m6, k17m7, k17m8, k17m9, k17m10]
  instanceTypes := #[(.array .byte), .byte, .boolean, .int]
  staticTypes := #[(.array .byte)]
  resolved := Array.replicate 609 none
  statics := none }

def pool18 : Array CpInfo := pool [(1, .methodref 2 3), (0, .class_ 4), (0, .nameAndType 5 6), (0, u "java/lang/AbstractStringBuilder"), (0, u "<init>"), (0, u "(I)V"), (11, .class_ 20), (1, u "java/lang/String"), (3, .class_ 26), (1, u "java/lang/StringBuilder"), (0, u "append"), (0, u "(Ljava/lang/String;)Ljava/lang/StringBuilder;"), (0, .methodref 2 30), (0, .nameAndType 27 31), (0, u "(Ljava/lang/String;)Ljava/lang/AbstractStringBuilder;"), (21, .methodref 2 54), (0, .nameAndType 27 55), (0, u "(I)Ljava/lang/AbstractStringBuilder;"), (81, .methodref 18 138), (0, .nameAndType 5 139), (0, u "(Ljava/lang/StringBuilder;)V"), (5, u "()V"), (10, u "()I"), (111, u "(I)Ljava/lang/StringBuilder;"), (74, .methodref 2 344), (0, .nameAndType 345 156), (0, u "length"), (3, .class_ 350), (0, u "java/lang/Appendable"), (0, .class_ 352), (0, u "java/io/Serializable"), (0, .class_ 354), (0, u "java/lang/Comparable"), (0, .class_ 356), (0, u "java/lang/CharSequence"), (0, u "serialVersionUID"), (0, u "J"), (40, u "toString"), (0, u "()Ljava/lang/String;")] 21

def k18c0 : Code := { maxStack := 2, maxLocals := 1, code := jdk_67_method_1_code, exceptionTable := #[], attributes := #[] }
def k18m0 : Method := { name := "<init>", desc := "()V", sig := { parameters := [], returnType := none }, accessFlags := 1, code := some k18c0 }
def k18c1 : Code := { maxStack := 2, maxLocals := 2, code := jdk_67_method_7_code, exceptionTable := #[], attributes := #[] }
def k18m1 : Method := { name := "append", desc := "(Ljava/lang/String;)Ljava/lang/StringBuilder;", sig := { parameters := [(.object "java/lang/String")], returnType := some (.object "java/lang/StringBuilder") }, accessFlags := 1, code := some k18c1 }
def k18c2 : Code := { maxStack := 2, maxLocals := 2, code := jdk_67_method_15_code, exceptionTable := #[], attributes := #[] }
def k18m2 : Method := { name := "append", desc := "(I)Ljava/lang/StringBuilder;", sig := { parameters := [.int], returnType := some (.object "java/lang/StringBuilder") }, accessFlags := 1, code := some k18c2 }
def k18c3 : Code := { maxStack := 3, maxLocals := 1, code := jdk_67_method_42_code, exceptionTable := #[], attributes := #[] }
def k18m3 : Method := { name := "toString", desc := "()Ljava/lang/String;", sig := { parameters := [], returnType := some (.object "java/lang/String") }, accessFlags := 1, code := some k18c3 }
def k18c4 : Code := { maxStack := 1, maxLocals := 1, code := jdk_67_method_93_code, exceptionTable := #[], attributes := #[] }
def k18m4 : Method := { name := "length", desc := "()I", sig := { parameters := [], returnType := some .int }, accessFlags := 4161, code := some k18c4 }
/-- java/lang/StringBuilder -/
def k18 : Class := { plain "java/lang/StringBuilder" (some 17) with
  accessFlags := 49
  interfaces := #[16, 2, 3, 4]
  cf := some (fileOf pool18 24 #[] #[{ accessFlags := 1, nameIndex := 5, descriptorIndex := 145, attributes := #[] }, { accessFlags := 1, nameIndex := 27, descriptorIndex := 28, attributes := #[] }, { accessFlags := 1, nameIndex := 27, descriptorIndex := 268, attributes := #[] }, { accessFlags := 1, nameIndex := 399, descriptorIndex := 400, attributes := #[] }, { accessFlags := 4161, nameIndex := 345, descriptorIndex := 156, attributes := #[] }] 49 2 #[349, 351, 353, 355] #[{ accessFlags := 24, nameIndex := 357, descriptorIndex := 358, attributes := #[] }])
  fields := #[{ name := "serialVersionUID", type := .long, accessFlags := 24, slot := 0, constantValue := 0 }]
  methods := #[k18m0, k18m1, k18m2, k18m3, k18m4]
  instanceTypes := #[(.array .byte), .byte, .boolean, .int]
  staticTypes := #[.long]
  resolved := Array.replicate 422 none
  statics := none }

def pool19 : Array CpInfo := pool [(9, u "<init>"), (6, .class_ 18), (1, u "java/lang/Object"), (0, u "()V"), (1, .class_ 23), (1, u "jdk/internal/util/ArraysSupport"), (0, u "LOG2_ARRAY_LONG_INDEX_SCALE"), (0, u "I"), (2, u "U"), (0, u "Ljdk/internal/misc/Unsafe;"), (8, u "BIG_ENDIAN"), (0, u "Z"), (8, u "LOG2_BYTE_BIT_SIZE"), (4, u "LOG2_ARRAY_INT_INDEX_SCALE"), (54, u "JLA"), (0, u "Ljdk/internal/access/JavaLangAccess;"), (11, u "LOG2_ARRAY_BOOLEAN_INDEX_SCALE"), (9, u "LOG2_ARRAY_BYTE_INDEX_SCALE"), (5, u "LOG2_ARRAY_CHAR_INDEX_SCALE"), (5, u "LOG2_ARRAY_SHORT_INDEX_SCALE"), (18, u "LOG2_ARRAY_FLOAT_INDEX_SCALE"), (24, u "LOG2_ARRAY_DOUBLE_INDEX_SCALE"), (6, .methodref 195 196), (0, .class_ 197), (0, .nameAndType 198 199), (0, u "java/lang/Math"), (0, u "max"), (0, u "(II)I"), (0, .integer 2147483639), (76, u "T_BOOLEAN"), (2, u "T_CHAR"), (1, u "T_FLOAT"), (1, u "T_DOUBLE"), (1, u "T_BYTE"), (1, u "T_SHORT"), (1, u "T_INT"), (1, u "T_LONG"), (1, u "SOFT_MAX_ARRAY_LENGTH"), (56, u "newLength"), (0, u "(III)I")] 25

def k19m0 : Method := { name := "<init>", desc := "()V", sig := { parameters := [], returnType := none }, accessFlags := 2, code := none }
def k19c1 : Code := { maxStack := 3, maxLocals := 4, code := jdk_48_method_27_code, exceptionTable := #[], attributes := #[] }
def k19m1 : Method := { name := "newLength", desc := "(III)I", sig := { parameters := [.int, .int, .int], returnType := some .int }, accessFlags := 9, code := some k19c1 }
/-- jdk/internal/util/ArraysSupport -/
def k19 : Class := { plain "jdk/internal/util/ArraysSupport" (some 0) with
  accessFlags := 33
  interfaces := #[]
  cf := some (fileOf pool19 21 #[] #[{ accessFlags := 2, nameIndex := 9, descriptorIndex := 19, attributes := #[] }, { accessFlags := 9, nameIndex := 351, descriptorIndex := 352, attributes := #[] }] 33 16 #[] #[{ accessFlags := 24, nameIndex := 28, descriptorIndex := 29, attributes := #[] }, { accessFlags := 26, nameIndex := 38, descriptorIndex := 39, attributes := #[] }, { accessFlags := 25, nameIndex := 121, descriptorIndex := 25, attributes := #[] }, { accessFlags := 25, nameIndex := 131, descriptorIndex := 25, attributes := #[] }, { accessFlags := 25, nameIndex := 137, descriptorIndex := 25, attributes := #[] }, { accessFlags := 25, nameIndex := 143, descriptorIndex := 25, attributes := #[] }, { accessFlags := 25, nameIndex := 53, descriptorIndex := 25, attributes := #[] }, { accessFlags := 25, nameIndex := 24, descriptorIndex := 25, attributes := #[] }, { accessFlags := 25, nameIndex := 162, descriptorIndex := 25, attributes := #[] }, { accessFlags := 25, nameIndex := 187, descriptorIndex := 25, attributes := #[] }, { accessFlags := 26, nameIndex := 48, descriptorIndex := 25, attributes := #[] }, { accessFlags := 25, nameIndex := 277, descriptorIndex := 25, attributes := #[] }, { accessFlags := 25, nameIndex := 280, descriptorIndex := 25, attributes := #[] }, { accessFlags := 25, nameIndex := 282, descriptorIndex := 25, attributes := #[] }, { accessFlags := 25, nameIndex := 284, descriptorIndex := 25, attributes := #[] }, { accessFlags := 25, nameIndex := 286, descriptorIndex := 25, attributes := #[] }, { accessFlags := 25, nameIndex := 288, descriptorIndex := 25, attributes := #[] }, { accessFlags := 25, nameIndex := 290, descriptorIndex := 25, attributes := #[] }, { accessFlags := 25, nameIndex := 292, descriptorIndex := 25, attributes := #[] }, { accessFlags := 26, nameIndex := 108, descriptorIndex := 109, attributes := #[] }, { accessFlags := 25, nameIndex := 294, descriptorIndex := 25, attributes := #[] }])
  fields := #[{ name := "U", type := (.object "jdk/internal/misc/Unsafe"), accessFlags := 24, slot := 0, constantValue := 0 }, { name := "BIG_ENDIAN", type := .boolean, accessFlags := 26, slot := 1, constantValue := 0 }, { name := "LOG2_ARRAY_BOOLEAN_INDEX_SCALE", type := .int, accessFlags := 25, slot := 2, constantValue := 0 }, { name := "LOG2_ARRAY_BYTE_INDEX_SCALE", type := .int, accessFlags := 25, slot := 3, constantValue := 0 }, { name := "LOG2_ARRAY_CHAR_INDEX_SCALE", type := .int, accessFlags := 25, slot := 4, constantValue := 0 }, { name := "LOG2_ARRAY_SHORT_INDEX_SCALE", type := .int, accessFlags := 25, slot := 5, constantValue := 0 }, { name := "LOG2_ARRAY_INT_INDEX_SCALE", type := .int, accessFlags := 25, slot := 6, constantValue := 0 }, { name := "LOG2_ARRAY_LONG_INDEX_SCALE", type := .int, accessFlags := 25, slot := 7, constantValue := 0 }, { name := "LOG2_ARRAY_FLOAT_INDEX_SCALE", type := .int, accessFlags := 25, slot := 8, constantValue := 0 }, { name := "LOG2_ARRAY_DOUBLE_INDEX_SCALE", type := .int, accessFlags := 25, slot := 9, constantValue := 0 }, { name := "LOG2_BYTE_BIT_SIZE", type := .int, accessFlags := 26, slot := 10, constantValue := 0 }, { name := "T_BOOLEAN", type := .int, accessFlags := 25, slot := 11, constantValue := 0 }, { name := "T_CHAR", type := .int, accessFlags := 25, slot := 12, constantValue := 0 }, { name := "T_FLOAT", type := .int, accessFlags := 25, slot := 13, constantValue := 0 }, { name := "T_DOUBLE", type := .int, accessFlags := 25, slot := 14, constantValue := 0 }, { name := "T_BYTE", type := .int, accessFlags := 25, slot := 15, constantValue := 0 }, { name := "T_SHORT", type := .int, accessFlags := 25, slot := 16, constantValue := 0 }, { name := "T_INT", type := .int, accessFlags := 25, slot := 17, constantValue := 0 }, { name := "T_LONG", type := .int, accessFlags := 25, slot := 18, constantValue := 0 }, { name := "JLA", type := (.object "jdk/internal/access/JavaLangAccess"), accessFlags := 26, slot := 19, constantValue := 0 }, { name := "SOFT_MAX_ARRAY_LENGTH", type := .int, accessFlags := 25, slot := 20, constantValue := 0 }]
  methods := #[k19m0, k19m1]
  instanceTypes := #[]
  staticTypes := #[(.object "jdk/internal/misc/Unsafe"), .boolean, .int, .int, .int, .int, .int, .int, .int, .int, .int, .int, .int, .int, .int, .int, .int, .int, .int, (.object "jdk/internal/access/JavaLangAccess"), .int]
  resolved := Array.replicate 378 none
  statics := none }

def pool20 : Array CpInfo := pool [(1, .class_ 2), (0, u "java/lang/Math"), (1, .class_ 6), (1, u "java/lang/Object"), (0, u "<init>"), (0, u "()V"), (89, .class_ 100), (1, u "java/lang/Math$RandomNumberGeneratorHolder"), (71, u "negativeZeroFloatBits"), (0, u "J"), (2, u "negativeZeroDoubleBits"), (21, u "max"), (2, u "min"), (43, u "$assertionsDisabled"), (0, u "Z"), (88, u "(II)I"), (2, u "twoToTheDoubleScaleDown"), (0, u "D"), (4, u "twoToTheDoubleScaleUp"), (9, u "E"), (3, u "PI"), (2, u "TAU"), (2, u "DEGREES_TO_RADIANS"), (0, u "RADIANS_TO_DEGREES")] 94

def k20m0 : Method := { name := "<init>", desc := "()V", sig := { parameters := [], returnType := none }, accessFlags := 2, code := none }
def k20c1 : Code := { maxStack := 2, maxLocals := 2, code := jdk_29_method_65_code, exceptionTable := #[], attributes := #[] }
def k20m1 : Method := { name := "max", desc := "(II)I", sig := { parameters := [.int, .int], returnType := some .int }, accessFlags := 9, code := some k20c1 }
def k20c2 : Code := { maxStack := 2, maxLocals := 2, code := jdk_29_method_69_code, exceptionTable := #[], attributes := #[] }
def k20m2 : Method := { name := "min", desc := "(II)I", sig := { parameters := [.int, .int], returnType := some .int }, accessFlags := 9, code := some k20c2 }
/-- java/lang/Math -/
def k20 : Class := { plain "java/lang/Math" (some 0) with
  accessFlags := 49
  interfaces := #[]
  cf := some (fileOf pool20 1 #[.nestMembers #[98]] #[{ accessFlags := 2, nameIndex := 7, descriptorIndex := 8, attributes := #[] }, { accessFlags := 9, nameIndex := 198, descriptorIndex := 335, attributes := #[] }, { accessFlags := 9, nameIndex := 201, descriptorIndex := 335, attributes := #[] }] 49 4 #[] #[{ accessFlags := 25, nameIndex := 354, descriptorIndex := 339, attributes := #[] }, { accessFlags := 25, nameIndex := 358, descriptorIndex := 339, attributes := #[] }, { accessFlags := 25, nameIndex := 361, descriptorIndex := 339, attributes := #[] }, { accessFlags := 26, nameIndex := 364, descriptorIndex := 339, attributes := #[] }, { accessFlags := 26, nameIndex := 365, descriptorIndex := 339, attributes := #[] }, { accessFlags := 26, nameIndex := 172, descriptorIndex := 173, attributes := #[] }, { accessFlags := 26, nameIndex := 176, descriptorIndex := 173, attributes := #[] }, { accessFlags := 8, nameIndex := 344, descriptorIndex := 339, attributes := #[] }, { accessFlags := 8, nameIndex := 338, descriptorIndex := 339, attributes := #[] }, { accessFlags := 4120, nameIndex := 245, descriptorIndex := 246, attributes := #[] }])
  fields := #[{ name := "E", type := .double, accessFlags := 25, slot := 0, constantValue := 0 }, { name := "PI", type := .double, accessFlags := 25, slot := 1, constantValue := 0 }, { name := "TAU", type := .double, accessFlags := 25, slot := 2, constantValue := 0 }, { name := "DEGREES_TO_RADIANS", type := .double, accessFlags := 26, slot := 3, constantValue := 0 }, { name := "RADIANS_TO_DEGREES", type := .double, accessFlags := 26, slot := 4, constantValue := 0 }, { name := "negativeZeroFloatBits", type := .long, accessFlags := 26, slot := 5, constantValue := 0 }, { name := "negativeZeroDoubleBits", type := .long, accessFlags := 26, slot := 6, constantValue := 0 }, { name := "twoToTheDoubleScaleUp", type := .double, accessFlags := 8, slot := 7, constantValue := 0 }, { name := "twoToTheDoubleScaleDown", type := .double, accessFlags := 8, slot := 8, constantValue := 0 }, { name := "$assertionsDisabled", type := .boolean, accessFlags := 4120, slot := 9, constantValue := 0 }]
  methods := #[k20m0, k20m1, k20m2]
  instanceTypes := #[]
  staticTypes := #[.double, .double, .double, .double, .double, .long, .long, .double, .double, .boolean]
  resolved := Array.replicate 460 none
  statics := none }

def pool21 : Array CpInfo := pool [(2, .class_ 4), (1, u "java/lang/Object"), (0, u "<init>"), (0, u "()V"), (7, .class_ 16), (1, u "java/util/Arrays"), (57, .class_ 76), (1, u "java/util/Arrays$NaturalOrder"), (36, .class_ 115), (1, u "java/util/Arrays$LegacyMergeSort"), (1, u "Z"), (21, u "copyOfRange"), (10, .methodref 151 152), (0, .class_ 153), (0, .nameAndType 154 155), (0, u "java/lang/System"), (0, u "arraycopy"), (0, u "(Ljava/lang/Object;ILjava/lang/Object;II)V"), (146, u "copyOf"), (1, .methodref 305 306), (0, .class_ 307), (0, .nameAndType 308 309), (0, u "java/lang/Math"), (0, u "min"), (0, u "(II)I"), (29, .methodref 14 340), (0, .nameAndType 341 342), (0, u "copyOfRangeByte"), (0, u "([BII)[B"), (0, .methodref 14 344), (0, .nameAndType 345 346), (0, u "checkLength"), (0, u "(II)V"), (28, .class_ 376), (0, u "java/util/Arrays$ArrayList"), (68, u "$assertionsDisabled"), (269, u "MIN_ARRAY_SORT_GRAN"), (0, u "I"), (2, u "INSERTIONSORT_THRESHOLD"), (149, u "([BI)[B"), (105, .class_ 976), (0, u "java/util/Arrays$ArrayItr")] 52

def k21m0 : Method := { name := "<init>", desc := "()V", sig := { parameters := [], returnType := none }, accessFlags := 2, code := none }
def k21c1 : Code := { maxStack := 6, maxLocals := 3, code := jdk_65_method_121_code, exceptionTable := #[], attributes := #[] }
def k21m1 : Method := { name := "copyOf", desc := "([BI)[B", sig := { parameters := [(.array .byte), .int], returnType := some (.array .byte) }, accessFlags := 9, code := some k21c1 }
def k21c2 : Code := { maxStack := 4, maxLocals := 2, code := jdk_65_method_131_code, exceptionTable := #[], attributes := #[] }
def k21m2 : Method := { name := "checkLength", desc := "(II)V", sig := { parameters := [.int, .int], returnType := none }, accessFlags := 10, code := some k21c2 }
def k21c3 : Code := { maxStack := 3, maxLocals := 3, code := jdk_65_method_132_code, exceptionTable := #[], attributes := #[] }
def k21m3 : Method := { name := "copyOfRange", desc := "([BII)[B", sig := { parameters := [(.array .byte), .int, .int], returnType := some (.array .byte) }, accessFlags := 9, code := some k21c3 }
def k21c4 : Code := { maxStack := 6, maxLocals := 5, code := jdk_65_method_133_code, exceptionTable := #[], attributes := #[] }
def k21m4 : Method := { name := "copyOfRangeByte", desc := "([BII)[B", sig := { parameters := [(.array .byte), .int, .int], returnType := some (.array .byte) }, accessFlags := 10, code := some k21c4 }
/-- java/util/Arrays -/
def k21 : Class := { plain "java/util/Arrays" (some 0) with
  accessFlags := 49
  interfaces := #[]
  cf := some (fileOf pool21 14 #[.nestMembers #[975, 375, 113, 74]] #[{ accessFlags := 2, nameIndex := 5, descriptorIndex := 6, attributes := #[] }, { accessFlags := 9, nameIndex := 302, descriptorIndex := 869, attributes := #[] }, { accessFlags := 10, nameIndex := 345, descriptorIndex := 346, attributes := #[] }, { accessFlags := 9, nameIndex := 139, descriptorIndex := 342, attributes := #[] }, { accessFlags := 10, nameIndex := 341, descriptorIndex := 342, attributes := #[] }] 49 2 #[] #[{ accessFlags := 26, nameIndex := 715, descriptorIndex := 716, attributes := #[] }, { accessFlags := 26, nameIndex := 719, descriptorIndex := 716, attributes := #[] }, { accessFlags := 4120, nameIndex := 445, descriptorIndex := 117, attributes := #[] }])
  fields := #[{ name := "MIN_ARRAY_SORT_GRAN", type := .int, accessFlags := 26, slot := 0, constantValue := 0 }, { name := "INSERTIONSORT_THRESHOLD", type := .int, accessFlags := 26, slot := 1, constantValue := 0 }, { name := "$assertionsDisabled", type := .boolean, accessFlags := 4120, slot := 2, constantValue := 0 }]
  methods := #[k21m0, k21m1, k21m2, k21m3, k21m4]
  instanceTypes := #[]
  staticTypes := #[.int, .int, .boolean]
  resolved := Array.replicate 1029 none
  statics := none }

def pool22 : Array CpInfo := pool [(2, .class_ 4), (1, u "java/lang/Object"), (0, u "<init>"), (0, u "()V"), (1, .class_ 10), (1, u "java/lang/System"), (0, u "allowSecurityManager"), (0, u "I"), (16, u "cons"), (0, u "Ljava/io/Console;"), (77, .class_ 110), (1, u "java/lang/System$CallersHolder"), (43, u "initialErrStream"), (0, u "Ljava/io/PrintStream;"), (19, u "security"), (0, u "Ljava/lang/SecurityManager;"), (31, .class_ 209), (0, u "java/lang/System$1"), (7, u "props"), (0, u "Ljava/util/Properties;"), (2, u "lineSeparator"), (0, u "Ljava/lang/String;"), (96, .class_ 321), (1, u "java/lang/System$LoggerFinder"), (5, .class_ 328), (0, u "java/lang/System$Logger"), (67, u "err"), (2, u "out"), (91, u "notSupportedJnuEncoding"), (15, u "in"), (17, u "initialIn"), (0, u "Ljava/io/InputStream;"), (35, u "bootLayer"), (0, u "Ljava/lang/ModuleLayer;"), (99, .class_ 664), (0, u "java/lang/System$2"), (9, u "NEVER"), (2, u "MAYBE"), (49, u "arraycopy"), (0, u "(Ljava/lang/Object;ILjava/lang/Object;II)V"), (72, .class_ 802), (0, u "java/lang/System$Logger$Level")] 31

def k22m0 : Method := { name := "<init>", desc := "()V", sig := { parameters := [], returnType := none }, accessFlags := 2, code := none }
def k22m1 : Method := { name := "arraycopy", desc := "(Ljava/lang/Object;ILjava/lang/Object;II)V", sig := { parameters := [(.object "java/lang/Object"), .int, (.object "java/lang/Object"), .int, .int], returnType := none }, accessFlags := 265, code := none }
/-- java/lang/System -/
def k22 : Class := { plain "java/lang/System" (some 0) with
  accessFlags := 49
  interfaces := #[]
  cf := some (fileOf pool22 8 #[.nestMembers #[319, 327, 801, 108, 663, 208]] #[{ accessFlags := 2, nameIndex := 5, descriptorIndex := 6, attributes := #[] }, { accessFlags := 265, nameIndex := 727, descriptorIndex := 728, attributes := #[] }] 49 2 #[] #[{ accessFlags := 25, nameIndex := 507, descriptorIndex := 526, attributes := #[] }, { accessFlags := 25, nameIndex := 399, descriptorIndex := 155, attributes := #[] }, { accessFlags := 25, nameIndex := 396, descriptorIndex := 155, attributes := #[] }, { accessFlags := 10, nameIndex := 525, descriptorIndex := 526, attributes := #[] }, { accessFlags := 26, nameIndex := 674, descriptorIndex := 12, attributes := #[] }, { accessFlags := 26, nameIndex := 677, descriptorIndex := 12, attributes := #[] }, { accessFlags := 10, nameIndex := 11, descriptorIndex := 12, attributes := #[] }, { accessFlags := 74, nameIndex := 175, descriptorIndex := 176, attributes := #[] }, { accessFlags := 10, nameIndex := 491, descriptorIndex := 222, attributes := #[] }, { accessFlags := 74, nameIndex := 29, descriptorIndex := 30, attributes := #[] }, { accessFlags := 74, nameIndex := 154, descriptorIndex := 155, attributes := #[] }, { accessFlags := 10, nameIndex := 217, descriptorIndex := 218, attributes := #[] }, { accessFlags := 10, nameIndex := 221, descriptorIndex := 222, attributes := #[] }, { accessFlags := 8, nameIndex := 562, descriptorIndex := 563, attributes := #[] }])
  fields := #[{ name := "in", type := (.object "java/io/InputStream"), accessFlags := 25, slot := 0, constantValue := 0 }, { name := "out", type := (.object "java/io/PrintStream"), accessFlags := 25, slot := 1, constantValue := 0 }, { name := "err", type := (.object "java/io/PrintStream"), accessFlags := 25, slot := 2, constantValue := 0 }, { name := "initialIn", type := (.object "java/io/InputStream"), accessFlags := 10, slot := 3, constantValue := 0 }, { name := "NEVER", type := .int, accessFlags := 26, slot := 4, constantValue := 0 }, { name := "MAYBE", type := .int, accessFlags := 26, slot := 5, constantValue := 0 }, { name := "allowSecurityManager", type := .int, accessFlags := 10, slot := 6, constantValue := 0 }, { name := "security", type := (.object "java/lang/SecurityManager"), accessFlags := 74, slot := 7, constantValue := 0 }, { name := "notSupportedJnuEncoding", type := (.object "java/lang/String"), accessFlags := 10, slot := 8, constantValue := 0 }, { name := "cons", type := (.object "java/io/Console"), accessFlags := 74, slot := 9, constantValue := 0 }, { name := "initialErrStream", type := (.object "java/io/PrintStream"), accessFlags := 74, slot := 10, constantValue := 0 }, { name := "props", type := (.object "java/util/Properties"), accessFlags := 10, slot := 11, constantValue := 0 }, { name := "lineSeparator", type := (.object "java/lang/String"), accessFlags := 10, slot := 12, constantValue := 0 }, { name := "bootLayer", type := (.object "java/lang/ModuleLayer"), accessFlags := 8, slot := 13, constantValue := 0 }]
  methods := #[k22m0, k22m1]
  instanceTypes := #[]
  staticTypes := #[(.object "java/io/InputStream"), (.object "java/io/PrintStream"), (.object "java/io/PrintStream"), (.object "java/io/InputStream"), .int, .int, .int, (.object "java/lang/SecurityManager"), (.object "java/lang/String"), (.object "java/io/Console"), (.object "java/io/PrintStream"), (.object "java/util/Properties"), (.object "java/lang/String"), (.object "java/lang/ModuleLayer")]
  resolved := Array.replicate 834 none
  statics := none }

def pool23 : Array CpInfo := pool [(2, .class_ 4), (1, u "java/lang/Object"), (0, u "<init>"), (0, u "()V"), (1, .class_ 10), (1, u "java/lang/Number"), (2, .class_ 14), (0, u "java/io/Serializable"), (0, u "serialVersionUID"), (0, u "J")] 20

def k23m0 : Method := { name := "<init>", desc := "()V", sig := { parameters := [], returnType := none }, accessFlags := 1, code := none }
/-- java/lang/Number -/
def k23 : Class := { plain "java/lang/Number" (some 0) with
  accessFlags := 1057
  interfaces := #[2]
  cf := some (fileOf pool23 8 #[] #[{ accessFlags := 1, nameIndex := 5, descriptorIndex := 6, attributes := #[] }] 1057 2 #[13] #[{ accessFlags := 26, nameIndex := 15, descriptorIndex := 16, attributes := #[] }])
  fields := #[{ name := "serialVersionUID", type := .long, accessFlags := 26, slot := 0, constantValue := 0 }]
  methods := #[k23m0]
  instanceTypes := #[]
  staticTypes := #[.long]
  resolved := Array.replicate 37 none
  statics := none }

def pool24 : Array CpInfo := pool [(1, .class_ 2), (0, u "java/lang/Integer"), (16, u "digits"), (0, u "[C"), (33, u "(I)I"), (19, u "stringSize"), (2, u "getChars"), (0, u "(II[B)I"), (4, .fieldref 1 84), (0, .nameAndType 85 86), (0, u "DigitOnes"), (0, u "[B"), (0, .fieldref 1 88), (0, .nameAndType 89 86), (0, u "DigitTens"), (99, .class_ 190), (0, u "java/lang/Integer$IntegerCache"), (3, u "I"), (8, .class_ 204), (0, u "java/lang/Number"), (2, u "value"), (94, u "TYPE"), (0, u "Ljava/lang/Class;"), (0, .class_ 305), (0, u "java/lang/Comparable"), (0, .class_ 307), (0, u "java/lang/constant/Constable"), (0, .class_ 309), (0, u "java/lang/constant/ConstantDesc"), (0, u "MIN_VALUE"), (1, u "MAX_VALUE"), (3, u "SIZE"), (1, u "BYTES"), (1, u "serialVersionUID"), (0, u "J")] 131

def k24c0 : Code := { maxStack := 4, maxLocals := 7, code := jdk_33_method_12_code, exceptionTable := #[], attributes := #[] }
def k24m0 : Method := { name := "getChars", desc := "(II[B)I", sig := { parameters := [.int, .int, (.array .byte)], returnType := some .int }, accessFlags := 8, code := some k24c0 }
def k24c1 : Code := { maxStack := 2, maxLocals := 4, code := jdk_33_method_13_code, exceptionTable := #[], attributes := #[] }
def k24m1 : Method := { name := "stringSize", desc := "(I)I", sig := { parameters := [.int], returnType := some .int }, accessFlags := 8, code := some k24c1 }
/-- java/lang/Integer -/
def k24 : Class := { plain "java/lang/Integer" (some 23) with
  accessFlags := 49
  interfaces := #[3, 5, 6]
  cf := some (fileOf pool24 1 #[.nestMembers #[189]] #[{ accessFlags := 8, nameIndex := 77, descriptorIndex := 78, attributes := #[] }, { accessFlags := 8, nameIndex := 74, descriptorIndex := 54, attributes := #[] }] 49 203 #[304, 306, 308] #[{ accessFlags := 25, nameIndex := 310, descriptorIndex := 194, attributes := #[] }, { accessFlags := 25, nameIndex := 312, descriptorIndex := 194, attributes := #[] }, { accessFlags := 25, nameIndex := 302, descriptorIndex := 303, attributes := #[] }, { accessFlags := 24, nameIndex := 19, descriptorIndex := 20, attributes := #[] }, { accessFlags := 24, nameIndex := 89, descriptorIndex := 86, attributes := #[] }, { accessFlags := 24, nameIndex := 85, descriptorIndex := 86, attributes := #[] }, { accessFlags := 18, nameIndex := 207, descriptorIndex := 194, attributes := #[] }, { accessFlags := 25, nameIndex := 316, descriptorIndex := 194, attributes := #[] }, { accessFlags := 25, nameIndex := 318, descriptorIndex := 194, attributes := #[] }, { accessFlags := 26, nameIndex := 320, descriptorIndex := 321, attributes := #[] }])
  fields := #[{ name := "MIN_VALUE", type := .int, accessFlags := 25, slot := 0, constantValue := 0 }, { name := "MAX_VALUE", type := .int, accessFlags := 25, slot := 1, constantValue := 0 }, { name := "TYPE", type := (.object "java/lang/Class"), accessFlags := 25, slot := 2, constantValue := 0 }, { name := "digits", type := (.array .char), accessFlags := 24, slot := 3, constantValue := 0 }, { name := "DigitTens", type := (.array .byte), accessFlags := 24, slot := 4, constantValue := 0 }, { name := "DigitOnes", type := (.array .byte), accessFlags := 24, slot := 5, constantValue := 0 }, { name := "value", type := .int, accessFlags := 18, slot := 0, constantValue := 0 }, { name := "SIZE", type := .int, accessFlags := 25, slot := 6, constantValue := 0 }, { name := "BYTES", type := .int, accessFlags := 25, slot := 7, constantValue := 0 }, { name := "serialVersionUID", type := .long, accessFlags := 26, slot := 8, constantValue := 0 }]
  methods := #[k24m0, k24m1]
  instanceTypes := #[.int]
  staticTypes := #[.int, .int, (.object "java/lang/Class"), (.array .char), (.array .byte), (.array .byte), .int, .int, .long]
  resolved := Array.replicate 453 none
  statics := some 3 }

def pool25 : Array CpInfo := pool [(1, u "java/lang/Cloneable"), (0, .class_ 1), (0, u "java/lang/Object"), (0, .class_ 3)] 3

/-- java/lang/Cloneable -/
def k25 : Class := { plain "java/lang/Cloneable" (some 0) with
  accessFlags := 1537
  interfaces := #[]
  cf := some (fileOf pool25 2 #[] #[] 1537 4 #[] #[])
  fields := #[]
  methods := #[]
  instanceTypes := #[]
  staticTypes := #[]
  resolved := Array.replicate 8 none
  statics := none }

/-- the primitive byte -/
def k26 : Class := { plain "byte" none with kind := .primitive 'B', accessFlags := 0x411 }
/-- [B -/
def k27 : Class := { plain "[B" (some 0) with kind := .array 26 .byte, interfaces := #[25, 2], accessFlags := 1041 }

/-- the primitive char -/
def k28 : Class := { plain "char" none with kind := .primitive 'C', accessFlags := 0x411 }
/-- [C -/
def k29 : Class := { plain "[C" (some 0) with kind := .array 28 .char, interfaces := #[25, 2], accessFlags := 1041 }

/-- the primitive int -/
def k30 : Class := { plain "int" none with kind := .primitive 'I', accessFlags := 0x411 }
/-- [I -/
def k31 : Class := { plain "[I" (some 0) with kind := .array 30 .int, interfaces := #[25, 2], accessFlags := 1041 }

def heap : Heap := #[{ cls := 7, slots := #[.long 0, .int 1, .null, .int 0, .null, .int 0, .int 0], vm := .statics 7 },
  { cls := 14, slots := #[.null, .null, .ref 6, .ref 7, .null], vm := .statics 14 },
  { cls := 15, slots := #[.null, .null, .null], vm := .statics 15 },
  { cls := 24, slots := #[.int 0, .int 0, .null, .null, .ref 5, .ref 4, .int 0, .int 0, .long 0], vm := .statics 24 },
  { cls := 27, slots := #[.int 48, .int 49, .int 50, .int 51, .int 52, .int 53, .int 54, .int 55, .int 56, .int 57, .int 48, .int 49, .int 50, .int 51, .int 52, .int 53, .int 54, .int 55, .int 56, .int 57, .int 48, .int 49, .int 50, .int 51, .int 52, .int 53, .int 54, .int 55, .int 56, .int 57, .int 48, .int 49, .int 50, .int 51, .int 52, .int 53, .int 54, .int 55, .int 56, .int 57, .int 48, .int 49, .int 50, .int 51, .int 52, .int 53, .int 54, .int 55, .int 56, .int 57, .int 48, .int 49, .int 50, .int 51, .int 52, .int 53, .int 54, .int 55, .int 56, .int 57, .int 48, .int 49, .int 50, .int 51, .int 52, .int 53, .int 54, .int 55, .int 56, .int 57, .int 48, .int 49, .int 50, .int 51, .int 52, .int 53, .int 54, .int 55, .int 56, .int 57, .int 48, .int 49, .int 50, .int 51, .int 52, .int 53, .int 54, .int 55, .int 56, .int 57, .int 48, .int 49, .int 50, .int 51, .int 52, .int 53, .int 54, .int 55, .int 56, .int 57], vm := .none },
  { cls := 27, slots := #[.int 48, .int 48, .int 48, .int 48, .int 48, .int 48, .int 48, .int 48, .int 48, .int 48, .int 49, .int 49, .int 49, .int 49, .int 49, .int 49, .int 49, .int 49, .int 49, .int 49, .int 50, .int 50, .int 50, .int 50, .int 50, .int 50, .int 50, .int 50, .int 50, .int 50, .int 51, .int 51, .int 51, .int 51, .int 51, .int 51, .int 51, .int 51, .int 51, .int 51, .int 52, .int 52, .int 52, .int 52, .int 52, .int 52, .int 52, .int 52, .int 52, .int 52, .int 53, .int 53, .int 53, .int 53, .int 53, .int 53, .int 53, .int 53, .int 53, .int 53, .int 54, .int 54, .int 54, .int 54, .int 54, .int 54, .int 54, .int 54, .int 54, .int 54, .int 55, .int 55, .int 55, .int 55, .int 55, .int 55, .int 55, .int 55, .int 55, .int 55, .int 56, .int 56, .int 56, .int 56, .int 56, .int 56, .int 56, .int 56, .int 56, .int 56, .int 57, .int 57, .int 57, .int 57, .int 57, .int 57, .int 57, .int 57, .int 57, .int 57], vm := .none },
  { cls := 14, slots := #[], vm := .none },
  { cls := 31, slots := #[.int 1207963663, .int 1207963663, .int 1207963663, .int 1207963663, .int 1207963663, .int 1207963663, .int 1207963663, .int 1207963663, .int 1207963663, .int 1476411407, .int 1342193679, .int 1476411407, .int 1610629135, .int 1342193679, .int 1207963663, .int 1207963663, .int 1207963663, .int 1207963663, .int 1207963663, .int 1207963663, .int 1207963663, .int 1207963663, .int 1207963663, .int 1207963663, .int 1207963663, .int 1207963663, .int 1207963663, .int 1207963663, .int 1342193679, .int 1342193679, .int 1342193679, .int 1476411407, .int 1610629132, .int 1744830488, .int 1744830488, .int 671088664, .int 671113242, .int 671088664, .int 1744830488, .int 1744830488, .int (-402653163), .int (-402653162), .int 1744830488, .int 536870937, .int 939524120, .int 536870932, .int 939524120, .int 939524120, .int 402667017, .int 402667017, .int 402667017, .int 402667017, .int 402667017, .int 402667017, .int 402667017, .int 402667017, .int 402667017, .int 402667017, .int 939524120, .int 1744830488, .int (-402653159), .int 1744830489, .int (-402653159), .int 1744830488, .int 1744830488, .int 8552417, .int 8552417, .int 8552417, .int 8552417, .int 8552417, .int 8552417, .int 8552417, .int 8552417, .int 8552417, .int 8552417, .int 8552417, .int 8552417, .int 8552417, .int 8552417, .int 8552417, .int 8552417, .int 8552417, .int 8552417, .int 8552417, .int 8552417, .int 8552417, .int 8552417, .int 8552417, .int 8552417, .int 8552417, .int 8552417, .int (-402653163), .int 1744830488, .int (-402653162), .int 1744830491, .int 1744850967, .int 1744830491, .int 8486882, .int 8486882, .int 8486882, .int 8486882, .int 8486882, .int 8486882, .int 8486882, .int 8486882, .int 8486882, .int 8486882, .int 8486882, .int 8486882, .int 8486882, .int 8486882, .int 8486882, .int 8486882, .int 8486882, .int 8486882, .int 8486882, .int 8486882, .int 8486882, .int 8486882, .int 8486882, .int 8486882, .int 8486882, .int 8486882, .int (-402653163), .int 1744830489, .int (-402653162), .int 1744830489, .int 1207963663, .int 1207963663, .int 1207963663, .int 1207963663, .int 1207963663, .int 1207963663, .int 1342181391, .int 1207963663, .int 1207963663, .int 1207963663, .int 1207963663, .int 1207963663, .int 1207963663, .int 1207963663, .int 1207963663, .int 1207963663, .int 1207963663, .int 1207963663, .int 1207963663, .int 1207963663, .int 1207963663, .int 1207963663, .int 1207963663, .int 1207963663, .int 1207963663, .int 1207963663, .int 1207963663, .int 1207963663, .int 1207963663, .int 1207963663, .int 1207963663, .int 1207963663, .int 1207963663, .int 939524108, .int 1744830488, .int 671113242, .int 671113242, .int 671113242, .int 671113242, .int 1744830492, .int 1744830488, .int 1744830491, .int 1744830492, .int 28677, .int (-402653155), .int 1744830489, .int 1207963664, .int 1744830492, .int 1744830491, .int 671088668, .int 671088665, .int 402654731, .int 402654731, .int 1744830491, .int 134049794, .int 1744830488, .int 1744830488, .int 1744830491, .int 402654475, .int 28677, .int (-402653154), .int 1744832523, .int 1744832523, .int 1744832523, .int 1744830488, .int 8548353, .int 8548353, .int 8548353, .int 8548353, .int 8548353, .int 8548353, .int 8548353, .int 8548353, .int 8548353, .int 8548353, .int 8548353, .int 8548353, .int 8548353, .int 8548353, .int 8548353, .int 8548353, .int 8548353, .int 8548353, .int 8548353, .int 8548353, .int 8548353, .int 8548353, .int 8548353, .int 1744830489, .int 8548353, .int 8548353, .int 8548353, .int 8548353, .int 8548353, .int 8548353, .int 8548353, .int 134049794, .int 8482818, .int 8482818, .int 8482818, .int 8482818, .int 8482818, .int 8482818, .int 8482818, .int 8482818, .int 8482818, .int 8482818, .int 8482818, .int 8482818, .int 8482818, .int 8482818, .int 8482818, .int 8482818, .int 8482818, .int 8482818, .int 8482818, .int 8482818, .int 8482818, .int 8482818, .int 8482818, .int 1744830489, .int 8482818, .int 8482818, .int 8482818, .int 8482818, .int 8482818, .int 8482818, .int 8482818, .int 102592514], vm := .none }]
def classes : Array Class := #[k0, k1, k2, k3, k4, k5, k6, k7, k8, k9, k10, k11, k12, k13, k14, k15, k16, k17, k18, k19, k20, k21, k22, k23, k24, k25, k26, k27, k28, k29, k30, k31]
def interned : List (Array UInt16 × Addr) := []
def slotsUsed : Nat := 480
def theMethod : MethodId := ⟨1, 1⟩
def args0 : Array Value := #[.int 5, .int 6, .int 7, .int 8, .int 9, .int 10]
def aboutOver (below : List Frame) : State where
  vm := { classes := classes, interned := interned.toArray }
  heap := heap
  slotsUsed := slotsUsed
  threads := #[{ frames := .invoking theMethod args0 :: below }]
def below0 : List Frame := [.native { method := ⟨0, 0⟩, args := #[] }]
def about1 : State := aboutOver below0
def p0 : Program := .bare "" "" ""
def e0 : Env := launch0.env 0 0 0
theorem w_frames : about1.frames = Frame.invoking theMethod args0 :: below0 := rfl
set_option maxRecDepth 65536 in
theorem w_args : argsFit about1.vm theMethod args0 = true := by decide +kernel
set_option maxRecDepth 65536 in
theorem w_heap : heapFits about1 = true := by decide +kernel
set_option maxRecDepth 65536 in
theorem w_runnable : about1.curStatus? = some .runnable := by decide +kernel
set_option maxRecDepth 65536 in
theorem w_alone : about1.alone = true := by decide +kernel
set_option maxRecDepth 65536 in
theorem w_named : about1.methodNamed? x = some theMethod := by decide +kernel
set_option maxRecDepth 65536 in
theorem w_hears : about1.hears theMethod below0 = true := by decide +kernel
set_option maxRecDepth 65536 in
theorem w_ripe : about1.ripe theMethod args0 below0 = true := by decide +kernel
theorem w_running : about1.status = .running := rfl
set_option maxRecDepth 65536 in
theorem w_room : about1.hasRoom e0.platform room_1 = true :=
  launch0.hasRoom_least _ room_1 (by decide +kernel) (by decide +kernel) (by decide +kernel) (by decide +kernel) (by decide +kernel) (by decide +kernel)
theorem allAtoms_all (ts : List Jvm.Cond) (a : Array Jvm.Value) (st : Jvm.State) : (allAtoms ts).before a st = ts.all (fun c => c.before a st) := by
  induction ts with
  | nil => rfl
  | cons c t ih =>
    show (Jvm.Cond.and c (allAtoms t)).before a st = _
    rw [Jvm.Cond.before_and, ih, List.all_cons]
def words1 : List Jvm.Cond := Jvm.Cond.code x code maxLocals ret :: tables_1
/-- a 'code' word, met by the world's own term for the bytes: nothing is compared byte by byte -/
theorem code_word {y : MethodName} {bytes : ByteArray} {mx : Nat} {rt : Option FieldType} {a : Array Value} {s : State} {m : MethodId} {meth : Method} {c : Code} (h1 : s.methodNamed? y = some m) (h2 : s.vm.method? m = some meth) (h3 : meth.code = some c) (h4 : c.code = bytes)
    (h5 : (c.maxLocals == mx && c.exceptionTable.isEmpty && decide (c.maxStack ≤ mostOperands) && decide (meth.sig.returnType = rt) && !meth.locks && decide (parseMethodDescriptor y.desc = some meth.sig)) = true) : (Jvm.Cond.code y bytes mx rt).before a s = true := by
  simp only [Bool.and_eq_true, beq_iff_eq, Bool.not_eq_true', decide_eq_true_eq] at h5
  obtain ⟨⟨⟨⟨⟨g1, g2⟩, g3⟩, g4⟩, g5⟩, g6⟩ := h5
  simp [Cond.before, Cond.holds, Cond.value, h1, h2, h3, h4, g1, g2, g3, g4, g5, g6]
def isCode : Jvm.Cond → Bool
  | .code _ _ _ _ => true
  | _ => false
theorem all_split {L : List Jvm.Cond} {P : Jvm.Cond → Bool} (h1 : L.all (fun c => isCode c || P c) = true) (h2 : ∀ c ∈ L.filter isCode, P c = true) : L.all P = true := by
  refine List.all_eq_true.mpr fun c hc => ?_
  have h := List.all_eq_true.mp h1 c hc
  rcases Bool.eq_false_or_eq_true (isCode c) with hi | hi
  · exact h2 c (List.mem_filter.mpr ⟨hc, hi⟩)
  · simpa [hi] using h
set_option maxRecDepth 65536 in
theorem w_c0 : (Jvm.Cond.code x code maxLocals ret).before args0 about1 = true := code_word (m := ⟨1, 1⟩) (meth := k1m1) (c := k1c1) (by decide +kernel) rfl rfl rfl (by decide +kernel)
set_option maxRecDepth 65536 in
theorem w_c1 : (Jvm.Cond.code ({ cls := "java/lang/String", name := "<init>", desc := "([C)V" } : Jvm.MethodName) jdk_42_method_3_code (2 : Nat) (Option.none : Option Jvm.ClassFile.FieldType)).before args0 about1 = true := code_word (m := ⟨7, 1⟩) (meth := k7m1) (c := k7c1) (by decide +kernel) rfl rfl rfl (by decide +kernel)
set_option maxRecDepth 65536 in
theorem w_c2 : (Jvm.Cond.code ({ cls := "java/lang/String", name := "<init>", desc := "([CIILjava/lang/Void;)V" } : Jvm.MethodName) jdk_42_method_149_code (6 : Nat) (Option.none : Option Jvm.ClassFile.FieldType)).before args0 about1 = true := code_word (m := ⟨7, 11⟩) (meth := k7m11) (c := k7c11) (by decide +kernel) rfl rfl rfl (by decide +kernel)
set_option maxRecDepth 65536 in
theorem w_c3 : (Jvm.Cond.code ({ cls := "java/lang/Object", name := "<init>", desc := "()V" } : Jvm.MethodName) object_method_1_code (1 : Nat) (Option.none : Option Jvm.ClassFile.FieldType)).before args0 about1 = true := code_word (m := ⟨0, 0⟩) (meth := k0m0) (c := k0c0) (by decide +kernel) rfl rfl rfl (by decide +kernel)
set_option maxRecDepth 65536 in
theorem w_c4 : (Jvm.Cond.code ({ cls := "java/lang/StringUTF16", name := "compress", desc := "([CII)[B" } : Jvm.MethodName) jdk_52_method_16_code (6 : Nat) (Option.some (Jvm.ClassFile.FieldType.array Jvm.ClassFile.FieldType.byte))).before args0 about1 = true := code_word (m := ⟨8, 2⟩) (meth := k8m2) (c := k8c2) (by decide +kernel) rfl rfl rfl (by decide +kernel)
set_option maxRecDepth 65536 in
theorem w_c5 : (Jvm.Cond.code ({ cls := "java/lang/StringUTF16", name := "compress", desc := "([CI[BII)I" } : Jvm.MethodName) jdk_52_method_21_code (7 : Nat) (Option.some Jvm.ClassFile.FieldType.int)).before args0 about1 = true := code_word (m := ⟨8, 3⟩) (meth := k8m3) (c := k8c3) (by decide +kernel) rfl rfl rfl (by decide +kernel)
set_option maxRecDepth 65536 in
theorem w_c6 : (Jvm.Cond.code ({ cls := "java/lang/StringUTF16", name := "coderFromArrayLen", desc := "([BI)B" } : Jvm.MethodName) jdk_52_method_15_code (2 : Nat) (Option.some Jvm.ClassFile.FieldType.byte)).before args0 about1 = true := code_word (m := ⟨8, 1⟩) (meth := k8m1) (c := k8c1) (by decide +kernel) rfl rfl rfl (by decide +kernel)
set_option maxRecDepth 65536 in
theorem w_c7 : (Jvm.Cond.code ({ cls := "com/example/orderly_tasks/orderlytasks/ConsoleSettings", name := "<init>", desc := "(Ljava/lang/String;ILjava/lang/String;Ljava/lang/String;)V" } : Jvm.MethodName) prog_1_method_1_code (5 : Nat) (Option.none : Option Jvm.ClassFile.FieldType)).before args0 about1 = true := code_word (m := ⟨10, 0⟩) (meth := k10m0) (c := k10c0) (by decide +kernel) rfl rfl rfl (by decide +kernel)
set_option maxRecDepth 65536 in
theorem w_c8 : (Jvm.Cond.code ({ cls := "java/lang/Record", name := "<init>", desc := "()V" } : Jvm.MethodName) jdk_30_method_1_code (1 : Nat) (Option.none : Option Jvm.ClassFile.FieldType)).before args0 about1 = true := code_word (m := ⟨9, 0⟩) (meth := k9m0) (c := k9c0) (by decide +kernel) rfl rfl rfl (by decide +kernel)
set_option maxRecDepth 65536 in
theorem w_c9 : (Jvm.Cond.code ({ cls := "java/util/Objects", name := "requireNonNull", desc := "(Ljava/lang/Object;Ljava/lang/String;)Ljava/lang/Object;" } : Jvm.MethodName) jdk_31_method_11_code (2 : Nat) (Option.some (Jvm.ClassFile.FieldType.object "java/lang/Object"))).before args0 about1 = true := code_word (m := ⟨11, 1⟩) (meth := k11m1) (c := k11c1) (by decide +kernel) rfl rfl rfl (by decide +kernel)
set_option maxRecDepth 65536 in
theorem w_c10 : (Jvm.Cond.code ({ cls := "java/lang/String", name := "isBlank", desc := "()Z" } : Jvm.MethodName) jdk_42_method_117_code (1 : Nat) (Option.some Jvm.ClassFile.FieldType.boolean)).before args0 about1 = true := code_word (m := ⟨7, 7⟩) (meth := k7m7) (c := k7c7) (by decide +kernel) rfl rfl rfl (by decide +kernel)
set_option maxRecDepth 65536 in
theorem w_c11 : (Jvm.Cond.code ({ cls := "java/lang/String", name := "indexOfNonWhitespace", desc := "()I" } : Jvm.MethodName) jdk_42_method_120_code (1 : Nat) (Option.some Jvm.ClassFile.FieldType.int)).before args0 about1 = true := code_word (m := ⟨7, 8⟩) (meth := k7m8) (c := k7c8) (by decide +kernel) rfl rfl rfl (by decide +kernel)
set_option maxRecDepth 65536 in
theorem w_c12 : (Jvm.Cond.code ({ cls := "java/lang/String", name := "isLatin1", desc := "()Z" } : Jvm.MethodName) jdk_42_method_154_code (1 : Nat) (Option.some Jvm.ClassFile.FieldType.boolean)).before args0 about1 = true := code_word (m := ⟨7, 15⟩) (meth := k7m15) (c := k7c15) (by decide +kernel) rfl rfl rfl (by decide +kernel)
set_option maxRecDepth 65536 in
theorem w_c13 : (Jvm.Cond.code ({ cls := "java/lang/StringLatin1", name := "indexOfNonWhitespace", desc := "([B)I" } : Jvm.MethodName) jdk_43_method_37_code (4 : Nat) (Option.some Jvm.ClassFile.FieldType.int)).before args0 about1 = true := code_word (m := ⟨12, 3⟩) (meth := k12m3) (c := k12c3) (by decide +kernel) rfl rfl rfl (by decide +kernel)
set_option maxRecDepth 65536 in
theorem w_c14 : (Jvm.Cond.code ({ cls := "java/lang/StringLatin1", name := "getChar", desc := "([BI)C" } : Jvm.MethodName) jdk_43_method_44_code (2 : Nat) (Option.some Jvm.ClassFile.FieldType.char)).before args0 about1 = true := code_word (m := ⟨12, 4⟩) (meth := k12m4) (c := k12c4) (by decide +kernel) rfl rfl rfl (by decide +kernel)
set_option maxRecDepth 65536 in
theorem w_c15 : (Jvm.Cond.code ({ cls := "java/lang/CharacterDataLatin1", name := "isWhitespace", desc := "(I)Z" } : Jvm.MethodName) jdk_116_method_26_code (3 : Nat) (Option.some Jvm.ClassFile.FieldType.boolean)).before args0 about1 = true := code_word (m := ⟨14, 1⟩) (meth := k14m1) (c := k14c1) (by decide +kernel) rfl rfl rfl (by decide +kernel)
set_option maxRecDepth 65536 in
theorem w_c16 : (Jvm.Cond.code ({ cls := "java/lang/CharacterDataLatin1", name := "getProperties", desc := "(I)I" } : Jvm.MethodName) jdk_116_method_1_code (4 : Nat) (Option.some Jvm.ClassFile.FieldType.int)).before args0 about1 = true := code_word (m := ⟨14, 0⟩) (meth := k14m0) (c := k14c0) (by decide +kernel) rfl rfl rfl (by decide +kernel)
set_option maxRecDepth 65536 in
theorem w_c17 : (Jvm.Cond.code ({ cls := "java/lang/String", name := "length", desc := "()I" } : Jvm.MethodName) jdk_42_method_54_code (1 : Nat) (Option.some Jvm.ClassFile.FieldType.int)).before args0 about1 = true := code_word (m := ⟨7, 3⟩) (meth := k7m3) (c := k7c3) (by decide +kernel) rfl rfl rfl (by decide +kernel)
set_option maxRecDepth 65536 in
theorem w_c18 : (Jvm.Cond.code ({ cls := "java/lang/String", name := "coder", desc := "()B" } : Jvm.MethodName) jdk_42_method_152_code (1 : Nat) (Option.some Jvm.ClassFile.FieldType.byte)).before args0 about1 = true := code_word (m := ⟨7, 14⟩) (meth := k7m14) (c := k7c14) (by decide +kernel) rfl rfl rfl (by decide +kernel)
set_option maxRecDepth 65536 in
theorem w_c19 : (Jvm.Cond.code ({ cls := "java/lang/String", name := "isEmpty", desc := "()Z" } : Jvm.MethodName) jdk_42_method_55_code (1 : Nat) (Option.some Jvm.ClassFile.FieldType.boolean)).before args0 about1 = true := code_word (m := ⟨7, 4⟩) (meth := k7m4) (c := k7c4) (by decide +kernel) rfl rfl rfl (by decide +kernel)
set_option maxRecDepth 65536 in
theorem w_c20 : (Jvm.Cond.code ({ cls := "com/example/orderly_tasks/orderlytasks/ConsoleSettings", name := "longEnough", desc := "(Ljava/lang/String;)Z" } : Jvm.MethodName) prog_1_method_2_code (1 : Nat) (Option.some Jvm.ClassFile.FieldType.boolean)).before args0 about1 = true := code_word (m := ⟨10, 1⟩) (meth := k10m1) (c := k10c1) (by decide +kernel) rfl rfl rfl (by decide +kernel)
set_option maxRecDepth 65536 in
theorem w_c21 : (Jvm.Cond.code ({ cls := "java/lang/String", name := "codePointCount", desc := "(II)I" } : Jvm.MethodName) jdk_42_method_59_code (3 : Nat) (Option.some Jvm.ClassFile.FieldType.int)).before args0 about1 = true := code_word (m := ⟨7, 6⟩) (meth := k7m6) (c := k7c6) (by decide +kernel) rfl rfl rfl (by decide +kernel)
set_option maxRecDepth 65536 in
theorem w_c22 : (Jvm.Cond.code ({ cls := "java/util/Objects", name := "checkFromToIndex", desc := "(III)I" } : Jvm.MethodName) jdk_31_method_18_code (3 : Nat) (Option.some Jvm.ClassFile.FieldType.int)).before args0 about1 = true := code_word (m := ⟨11, 2⟩) (meth := k11m2) (c := k11c2) (by decide +kernel) rfl rfl rfl (by decide +kernel)
set_option maxRecDepth 65536 in
theorem w_c23 : (Jvm.Cond.code ({ cls := "jdk/internal/util/Preconditions", name := "checkFromToIndex", desc := "(IIILjava/util/function/BiFunction;)I" } : Jvm.MethodName) jdk_41_method_12_code (4 : Nat) (Option.some Jvm.ClassFile.FieldType.int)).before args0 about1 = true := code_word (m := ⟨15, 2⟩) (meth := k15m2) (c := k15c2) (by decide +kernel) rfl rfl rfl (by decide +kernel)
set_option maxRecDepth 65536 in
theorem w_c24 : (Jvm.Cond.code ({ cls := "com/example/orderly_tasks/orderlytasks/ConsoleSettings", name := "toString", desc := "()Ljava/lang/String;" } : Jvm.MethodName) prog_1_method_3_code (1 : Nat) (Option.some (Jvm.ClassFile.FieldType.object "java/lang/String"))).before args0 about1 = true := code_word (m := ⟨10, 2⟩) (meth := k10m2) (c := k10c2) (by decide +kernel) rfl rfl rfl (by decide +kernel)
set_option maxRecDepth 65536 in
theorem w_c25 : (Jvm.Cond.code ({ cls := "java/lang/StringBuilder", name := "<init>", desc := "()V" } : Jvm.MethodName) jdk_67_method_1_code (1 : Nat) (Option.none : Option Jvm.ClassFile.FieldType)).before args0 about1 = true := code_word (m := ⟨18, 0⟩) (meth := k18m0) (c := k18c0) (by decide +kernel) rfl rfl rfl (by decide +kernel)
set_option maxRecDepth 65536 in
theorem w_c26 : (Jvm.Cond.code ({ cls := "java/lang/AbstractStringBuilder", name := "<init>", desc := "(I)V" } : Jvm.MethodName) jdk_68_method_2_code (2 : Nat) (Option.none : Option Jvm.ClassFile.FieldType)).before args0 about1 = true := code_word (m := ⟨17, 1⟩) (meth := k17m1) (c := k17c1) (by decide +kernel) rfl rfl rfl (by decide +kernel)
set_option maxRecDepth 65536 in
theorem w_c27 : (Jvm.Cond.code ({ cls := "java/lang/StringBuilder", name := "append", desc := "(Ljava/lang/String;)Ljava/lang/StringBuilder;" } : Jvm.MethodName) jdk_67_method_7_code (2 : Nat) (Option.some (Jvm.ClassFile.FieldType.object "java/lang/StringBuilder"))).before args0 about1 = true := code_word (m := ⟨18, 1⟩) (meth := k18m1) (c := k18c1) (by decide +kernel) rfl rfl rfl (by decide +kernel)
set_option maxRecDepth 65536 in
theorem w_c28 : (Jvm.Cond.code ({ cls := "java/lang/AbstractStringBuilder", name := "append", desc := "(Ljava/lang/String;)Ljava/lang/AbstractStringBuilder;" } : Jvm.MethodName) jdk_68_method_22_code (3 : Nat) (Option.some (Jvm.ClassFile.FieldType.object "java/lang/AbstractStringBuilder"))).before args0 about1 = true := code_word (m := ⟨17, 5⟩) (meth := k17m5) (c := k17c5) (by decide +kernel) rfl rfl rfl (by decide +kernel)
set_option maxRecDepth 65536 in
theorem w_c29 : (Jvm.Cond.code ({ cls := "java/lang/AbstractStringBuilder", name := "ensureCapacityInternal", desc := "(I)V" } : Jvm.MethodName) jdk_68_method_9_code (3 : Nat) (Option.none : Option Jvm.ClassFile.FieldType)).before args0 about1 = true := code_word (m := ⟨17, 3⟩) (meth := k17m3) (c := k17c3) (by decide +kernel) rfl rfl rfl (by decide +kernel)
set_option maxRecDepth 65536 in
theorem w_c30 : (Jvm.Cond.code ({ cls := "java/lang/AbstractStringBuilder", name := "newCapacity", desc := "(I)I" } : Jvm.MethodName) jdk_68_method_10_code (6 : Nat) (Option.some Jvm.ClassFile.FieldType.int)).before args0 about1 = true := code_word (m := ⟨17, 4⟩) (meth := k17m4) (c := k17c4) (by decide +kernel) rfl rfl rfl (by decide +kernel)
set_option maxRecDepth 65536 in
theorem w_c31 : (Jvm.Cond.code ({ cls := "jdk/internal/util/ArraysSupport", name := "newLength", desc := "(III)I" } : Jvm.MethodName) jdk_48_method_27_code (4 : Nat) (Option.some Jvm.ClassFile.FieldType.int)).before args0 about1 = true := code_word (m := ⟨19, 1⟩) (meth := k19m1) (c := k19c1) (by decide +kernel) rfl rfl rfl (by decide +kernel)
set_option maxRecDepth 65536 in
theorem w_c32 : (Jvm.Cond.code ({ cls := "java/lang/Math", name := "max", desc := "(II)I" } : Jvm.MethodName) jdk_29_method_65_code (2 : Nat) (Option.some Jvm.ClassFile.FieldType.int)).before args0 about1 = true := code_word (m := ⟨20, 1⟩) (meth := k20m1) (c := k20c1) (by decide +kernel) rfl rfl rfl (by decide +kernel)
set_option maxRecDepth 65536 in
theorem w_c33 : (Jvm.Cond.code ({ cls := "java/util/Arrays", name := "copyOf", desc := "([BI)[B" } : Jvm.MethodName) jdk_65_method_121_code (3 : Nat) (Option.some (Jvm.ClassFile.FieldType.array Jvm.ClassFile.FieldType.byte))).before args0 about1 = true := code_word (m := ⟨21, 1⟩) (meth := k21m1) (c := k21c1) (by decide +kernel) rfl rfl rfl (by decide +kernel)
set_option maxRecDepth 65536 in
theorem w_c34 : (Jvm.Cond.code ({ cls := "java/lang/Math", name := "min", desc := "(II)I" } : Jvm.MethodName) jdk_29_method_69_code (2 : Nat) (Option.some Jvm.ClassFile.FieldType.int)).before args0 about1 = true := code_word (m := ⟨20, 2⟩) (meth := k20m2) (c := k20c2) (by decide +kernel) rfl rfl rfl (by decide +kernel)
set_option maxRecDepth 65536 in
theorem w_c35 : (Jvm.Cond.code ({ cls := "java/lang/AbstractStringBuilder", name := "putStringAt", desc := "(ILjava/lang/String;)V" } : Jvm.MethodName) jdk_68_method_73_code (3 : Nat) (Option.none : Option Jvm.ClassFile.FieldType)).before args0 about1 = true := code_word (m := ⟨17, 10⟩) (meth := k17m10) (c := k17c10) (by decide +kernel) rfl rfl rfl (by decide +kernel)
set_option maxRecDepth 65536 in
theorem w_c36 : (Jvm.Cond.code ({ cls := "java/lang/AbstractStringBuilder", name := "inflateIfNeededFor", desc := "(Ljava/lang/String;)V" } : Jvm.MethodName) jdk_68_method_71_code (2 : Nat) (Option.none : Option Jvm.ClassFile.FieldType)).before args0 about1 = true := code_word (m := ⟨17, 9⟩) (meth := k17m9) (c := k17c9) (by decide +kernel) rfl rfl rfl (by decide +kernel)
set_option maxRecDepth 65536 in
theorem w_c37 : (Jvm.Cond.code ({ cls := "java/lang/String", name := "getBytes", desc := "([BIB)V" } : Jvm.MethodName) jdk_42_method_147_code (4 : Nat) (Option.none : Option Jvm.ClassFile.FieldType)).before args0 about1 = true := code_word (m := ⟨7, 10⟩) (meth := k7m10) (c := k7c10) (by decide +kernel) rfl rfl rfl (by decide +kernel)
set_option maxRecDepth 65536 in
theorem w_c38 : (Jvm.Cond.code ({ cls := "java/lang/StringBuilder", name := "append", desc := "(I)Ljava/lang/StringBuilder;" } : Jvm.MethodName) jdk_67_method_15_code (2 : Nat) (Option.some (Jvm.ClassFile.FieldType.object "java/lang/StringBuilder"))).before args0 about1 = true := code_word (m := ⟨18, 2⟩) (meth := k18m2) (c := k18c2) (by decide +kernel) rfl rfl rfl (by decide +kernel)
set_option maxRecDepth 65536 in
theorem w_c39 : (Jvm.Cond.code ({ cls := "java/lang/AbstractStringBuilder", name := "append", desc := "(I)Ljava/lang/AbstractStringBuilder;" } : Jvm.MethodName) jdk_68_method_32_code (4 : Nat) (Option.some (Jvm.ClassFile.FieldType.object "java/lang/AbstractStringBuilder"))).before args0 about1 = true := code_word (m := ⟨17, 6⟩) (meth := k17m6) (c := k17c6) (by decide +kernel) rfl rfl rfl (by decide +kernel)
set_option maxRecDepth 65536 in
theorem w_c40 : (Jvm.Cond.code ({ cls := "java/lang/Integer", name := "stringSize", desc := "(I)I" } : Jvm.MethodName) jdk_33_method_13_code (4 : Nat) (Option.some Jvm.ClassFile.FieldType.int)).before args0 about1 = true := code_word (m := ⟨24, 1⟩) (meth := k24m1) (c := k24c1) (by decide +kernel) rfl rfl rfl (by decide +kernel)
set_option maxRecDepth 65536 in
theorem w_c41 : (Jvm.Cond.code ({ cls := "java/lang/AbstractStringBuilder", name := "isLatin1", desc := "()Z" } : Jvm.MethodName) jdk_68_method_68_code (1 : Nat) (Option.some Jvm.ClassFile.FieldType.boolean)).before args0 about1 = true := code_word (m := ⟨17, 8⟩) (meth := k17m8) (c := k17c8) (by decide +kernel) rfl rfl rfl (by decide +kernel)
set_option maxRecDepth 65536 in
theorem w_c42 : (Jvm.Cond.code ({ cls := "java/lang/Integer", name := "getChars", desc := "(II[B)I" } : Jvm.MethodName) jdk_33_method_12_code (7 : Nat) (Option.some Jvm.ClassFile.FieldType.int)).before args0 about1 = true := code_word (m := ⟨24, 0⟩) (meth := k24m0) (c := k24c0) (by decide +kernel) rfl rfl rfl (by decide +kernel)
set_option maxRecDepth 65536 in
theorem w_c43 : (Jvm.Cond.code ({ cls := "java/lang/StringBuilder", name := "toString", desc := "()Ljava/lang/String;" } : Jvm.MethodName) jdk_67_method_42_code (1 : Nat) (Option.some (Jvm.ClassFile.FieldType.object "java/lang/String"))).before args0 about1 = true := code_word (m := ⟨18, 3⟩) (meth := k18m3) (c := k18c3) (by decide +kernel) rfl rfl rfl (by decide +kernel)
set_option maxRecDepth 65536 in
theorem w_c44 : (Jvm.Cond.code ({ cls := "java/lang/String", name := "<init>", desc := "(Ljava/lang/StringBuilder;)V" } : Jvm.MethodName) jdk_42_method_53_code (2 : Nat) (Option.none : Option Jvm.ClassFile.FieldType)).before args0 about1 = true := code_word (m := ⟨7, 2⟩) (meth := k7m2) (c := k7c2) (by decide +kernel) rfl rfl rfl (by decide +kernel)
set_option maxRecDepth 65536 in
theorem w_c45 : (Jvm.Cond.code ({ cls := "java/lang/String", name := "<init>", desc := "(Ljava/lang/AbstractStringBuilder;Ljava/lang/Void;)V" } : Jvm.MethodName) jdk_42_method_150_code (5 : Nat) (Option.none : Option Jvm.ClassFile.FieldType)).before args0 about1 = true := code_word (m := ⟨7, 12⟩) (meth := k7m12) (c := k7c12) (by decide +kernel) rfl rfl rfl (by decide +kernel)
set_option maxRecDepth 65536 in
theorem w_c46 : (Jvm.Cond.code ({ cls := "java/lang/AbstractStringBuilder", name := "getValue", desc := "()[B" } : Jvm.MethodName) jdk_68_method_64_code (1 : Nat) (Option.some (Jvm.ClassFile.FieldType.array Jvm.ClassFile.FieldType.byte))).before args0 about1 = true := code_word (m := ⟨17, 7⟩) (meth := k17m7) (c := k17c7) (by decide +kernel) rfl rfl rfl (by decide +kernel)
set_option maxRecDepth 65536 in
theorem w_c47 : (Jvm.Cond.code ({ cls := "java/lang/StringBuilder", name := "length", desc := "()I" } : Jvm.MethodName) jdk_67_method_93_code (1 : Nat) (Option.some Jvm.ClassFile.FieldType.int)).before args0 about1 = true := code_word (m := ⟨18, 4⟩) (meth := k18m4) (c := k18c4) (by decide +kernel) rfl rfl rfl (by decide +kernel)
set_option maxRecDepth 65536 in
theorem w_c48 : (Jvm.Cond.code ({ cls := "java/lang/AbstractStringBuilder", name := "length", desc := "()I" } : Jvm.MethodName) jdk_68_method_6_code (1 : Nat) (Option.some Jvm.ClassFile.FieldType.int)).before args0 about1 = true := code_word (m := ⟨17, 2⟩) (meth := k17m2) (c := k17c2) (by decide +kernel) rfl rfl rfl (by decide +kernel)
set_option maxRecDepth 65536 in
theorem w_c49 : (Jvm.Cond.code ({ cls := "java/util/Arrays", name := "copyOfRange", desc := "([BII)[B" } : Jvm.MethodName) jdk_65_method_132_code (3 : Nat) (Option.some (Jvm.ClassFile.FieldType.array Jvm.ClassFile.FieldType.byte))).before args0 about1 = true := code_word (m := ⟨21, 3⟩) (meth := k21m3) (c := k21c3) (by decide +kernel) rfl rfl rfl (by decide +kernel)
set_option maxRecDepth 65536 in
theorem w_c50 : (Jvm.Cond.code ({ cls := "java/util/Arrays", name := "copyOfRangeByte", desc := "([BII)[B" } : Jvm.MethodName) jdk_65_method_133_code (5 : Nat) (Option.some (Jvm.ClassFile.FieldType.array Jvm.ClassFile.FieldType.byte))).before args0 about1 = true := code_word (m := ⟨21, 4⟩) (meth := k21m4) (c := k21c4) (by decide +kernel) rfl rfl rfl (by decide +kernel)
set_option maxRecDepth 65536 in
theorem w_c51 : (Jvm.Cond.code ({ cls := "java/util/Arrays", name := "checkLength", desc := "(II)V" } : Jvm.MethodName) jdk_65_method_131_code (2 : Nat) (Option.none : Option Jvm.ClassFile.FieldType)).before args0 about1 = true := code_word (m := ⟨21, 2⟩) (meth := k21m2) (c := k21c2) (by decide +kernel) rfl rfl rfl (by decide +kernel)
set_option maxRecDepth 65536 in
theorem w_c52 : (Jvm.Cond.code ({ cls := "com/example/orderly_tasks/orderlytasks/ConsoleSettingsToStringPinLaw", name := "digits", desc := "(I)I" } : Jvm.MethodName) method_3_code (1 : Nat) (Option.some Jvm.ClassFile.FieldType.int)).before args0 about1 = true := code_word (m := ⟨1, 2⟩) (meth := k1m2) (c := k1c2) (by decide +kernel) rfl rfl rfl (by decide +kernel)
set_option maxRecDepth 65536 in
theorem w_c53 : (Jvm.Cond.code ({ cls := "com/example/orderly_tasks/orderlytasks/ConsoleSettingsToStringPinLaw", name := "at5", desc := "(Ljava/lang/String;ILjava/lang/String;IILjava/lang/String;)Z" } : Jvm.MethodName) method_7_code (6 : Nat) (Option.some Jvm.ClassFile.FieldType.boolean)).before args0 about1 = true := code_word (m := ⟨1, 6⟩) (meth := k1m6) (c := k1c6) (by decide +kernel) rfl rfl rfl (by decide +kernel)
set_option maxRecDepth 65536 in
theorem w_c54 : (Jvm.Cond.code ({ cls := "com/example/orderly_tasks/orderlytasks/ConsoleSettingsToStringPinLaw", name := "at", desc := "(Ljava/lang/String;ILjava/lang/String;IILjava/lang/String;)Z" } : Jvm.MethodName) method_6_code (6 : Nat) (Option.some Jvm.ClassFile.FieldType.boolean)).before args0 about1 = true := code_word (m := ⟨1, 5⟩) (meth := k1m5) (c := k1c5) (by decide +kernel) rfl rfl rfl (by decide +kernel)
set_option maxRecDepth 65536 in
theorem w_c55 : (Jvm.Cond.code ({ cls := "java/lang/String", name := "charAt", desc := "(I)C" } : Jvm.MethodName) jdk_42_method_56_code (2 : Nat) (Option.some Jvm.ClassFile.FieldType.char)).before args0 about1 = true := code_word (m := ⟨7, 5⟩) (meth := k7m5) (c := k7c5) (by decide +kernel) rfl rfl rfl (by decide +kernel)
set_option maxRecDepth 65536 in
theorem w_c56 : (Jvm.Cond.code ({ cls := "java/lang/StringLatin1", name := "charAt", desc := "([BI)C" } : Jvm.MethodName) jdk_43_method_2_code (2 : Nat) (Option.some Jvm.ClassFile.FieldType.char)).before args0 about1 = true := code_word (m := ⟨12, 1⟩) (meth := k12m1) (c := k12c1) (by decide +kernel) rfl rfl rfl (by decide +kernel)
set_option maxRecDepth 65536 in
theorem w_c57 : (Jvm.Cond.code ({ cls := "java/lang/String", name := "checkIndex", desc := "(II)V" } : Jvm.MethodName) jdk_42_method_155_code (2 : Nat) (Option.none : Option Jvm.ClassFile.FieldType)).before args0 about1 = true := code_word (m := ⟨7, 16⟩) (meth := k7m16) (c := k7c16) (by decide +kernel) rfl rfl rfl (by decide +kernel)
set_option maxRecDepth 65536 in
theorem w_c58 : (Jvm.Cond.code ({ cls := "jdk/internal/util/Preconditions", name := "checkIndex", desc := "(IILjava/util/function/BiFunction;)I" } : Jvm.MethodName) jdk_41_method_11_code (3 : Nat) (Option.some Jvm.ClassFile.FieldType.int)).before args0 about1 = true := code_word (m := ⟨15, 1⟩) (meth := k15m1) (c := k15c1) (by decide +kernel) rfl rfl rfl (by decide +kernel)
set_option maxRecDepth 65536 in
theorem w_c59 : (Jvm.Cond.code ({ cls := "com/example/orderly_tasks/orderlytasks/ConsoleSettingsToStringPinLaw", name := "exp", desc := "(ILjava/lang/String;IILjava/lang/String;)C" } : Jvm.MethodName) method_5_code (6 : Nat) (Option.some Jvm.ClassFile.FieldType.char)).before args0 about1 = true := code_word (m := ⟨1, 4⟩) (meth := k1m4) (c := k1c4) (by decide +kernel) rfl rfl rfl (by decide +kernel)
set_option maxRecDepth 65536 in
theorem w_c60 : (Jvm.Cond.code ({ cls := "com/example/orderly_tasks/orderlytasks/ConsoleSettingsToStringPinLaw", name := "pow10", desc := "(I)I" } : Jvm.MethodName) method_4_code (1 : Nat) (Option.some Jvm.ClassFile.FieldType.int)).before args0 about1 = true := code_word (m := ⟨1, 3⟩) (meth := k1m3) (c := k1c3) (by decide +kernel) rfl rfl rfl (by decide +kernel)
set_option maxRecDepth 65536 in
theorem w_c61 : (Jvm.Cond.code ({ cls := "java/lang/String", name := "valueOf", desc := "(C)Ljava/lang/String;" } : Jvm.MethodName) jdk_42_method_139_code (1 : Nat) (Option.some (Jvm.ClassFile.FieldType.object "java/lang/String"))).before args0 about1 = true := code_word (m := ⟨7, 9⟩) (meth := k7m9) (c := k7c9) (by decide +kernel) rfl rfl rfl (by decide +kernel)
set_option maxRecDepth 65536 in
theorem w_c62 : (Jvm.Cond.code ({ cls := "java/lang/StringLatin1", name := "canEncode", desc := "(C)Z" } : Jvm.MethodName) jdk_43_method_3_code (1 : Nat) (Option.some Jvm.ClassFile.FieldType.boolean)).before args0 about1 = true := code_word (m := ⟨12, 2⟩) (meth := k12m2) (c := k12c2) (by decide +kernel) rfl rfl rfl (by decide +kernel)
set_option maxRecDepth 65536 in
theorem w_c63 : (Jvm.Cond.code ({ cls := "java/lang/StringLatin1", name := "toBytes", desc := "(C)[B" } : Jvm.MethodName) jdk_43_method_46_code (1 : Nat) (Option.some (Jvm.ClassFile.FieldType.array Jvm.ClassFile.FieldType.byte))).before args0 about1 = true := code_word (m := ⟨12, 5⟩) (meth := k12m5) (c := k12c5) (by decide +kernel) rfl rfl rfl (by decide +kernel)
set_option maxRecDepth 65536 in
theorem w_c64 : (Jvm.Cond.code ({ cls := "java/lang/String", name := "<init>", desc := "([BB)V" } : Jvm.MethodName) jdk_42_method_151_code (3 : Nat) (Option.none : Option Jvm.ClassFile.FieldType)).before args0 about1 = true := code_word (m := ⟨7, 13⟩) (meth := k7m13) (c := k7c13) (by decide +kernel) rfl rfl rfl (by decide +kernel)
def codes1 : List Jvm.Cond := [Jvm.Cond.code x code maxLocals ret, Jvm.Cond.code ({ cls := "java/lang/String", name := "<init>", desc := "([C)V" } : Jvm.MethodName) jdk_42_method_3_code (2 : Nat) (Option.none : Option Jvm.ClassFile.FieldType), Jvm.Cond.code ({ cls := "java/lang/String", name := "<init>", desc := "([CIILjava/lang/Void;)V" } : Jvm.MethodName) jdk_42_method_149_code (6 : Nat) (Option.none : Option Jvm.ClassFile.FieldType), Jvm.Cond.code ({ cls := "java/lang/Object", name := "<init>", desc := "()V" } : Jvm.MethodName) object_method_1_code (1 : Nat) (Option.none : Option Jvm.ClassFile.FieldType), Jvm.Cond.code ({ cls := "java/lang/StringUTF16", name := "compress", desc := "([CII)[B" } : Jvm.MethodName) jdk_52_method_16_code (6 : Nat) (Option.some (Jvm.ClassFile.FieldType.array Jvm.ClassFile.FieldType.byte)), Jvm.Cond.code ({ cls := "java/lang/StringUTF16", name := "compress", desc := "([CI[BII)I" } : Jvm.MethodName) jdk_52_method_21_code (7 : Nat) (Option.some Jvm.ClassFile.FieldType.int), Jvm.Cond.code ({ cls := "java/lang/StringUTF16", name := "coderFromArrayLen", desc := "([BI)B" } : Jvm.MethodName) jdk_52_method_15_code (2 : Nat) (Option.some Jvm.ClassFile.FieldType.byte), Jvm.Cond.code ({ cls := "com/example/orderly_tasks/orderlytasks/ConsoleSettings", name := "<init>", desc := "(Ljava/lang/String;ILjava/lang/String;Ljava/lang/String;)V" } : Jvm.MethodName) prog_1_method_1_code (5 : Nat) (Option.none : Option Jvm.ClassFile.FieldType), Jvm.Cond.code ({ cls := "java/lang/Record", name := "<init>", desc := "()V" } : Jvm.MethodName) jdk_30_method_1_code (1 : Nat) (Option.none : Option Jvm.ClassFile.FieldType), Jvm.Cond.code ({ cls := "java/util/Objects", name := "requireNonNull", desc := "(Ljava/lang/Object;Ljava/lang/String;)Ljava/lang/Object;" } : Jvm.MethodName) jdk_31_method_11_code (2 : Nat) (Option.some (Jvm.ClassFile.FieldType.object "java/lang/Object")), Jvm.Cond.code ({ cls := "java/lang/String", name := "isBlank", desc := "()Z" } : Jvm.MethodName) jdk_42_method_117_code (1 : Nat) (Option.some Jvm.ClassFile.FieldType.boolean), Jvm.Cond.code ({ cls := "java/lang/String", name := "indexOfNonWhitespace", desc := "()I" } : Jvm.MethodName) jdk_42_method_120_code (1 : Nat) (Option.some Jvm.ClassFile.FieldType.int), Jvm.Cond.code ({ cls := "java/lang/String", name := "isLatin1", desc := "()Z" } : Jvm.MethodName) jdk_42_method_154_code (1 : Nat) (Option.some Jvm.ClassFile.FieldType.boolean), Jvm.Cond.code ({ cls := "java/lang/StringLatin1", name := "indexOfNonWhitespace", desc := "([B)I" } : Jvm.MethodName) jdk_43_method_37_code (4 : Nat) (Option.some Jvm.ClassFile.FieldType.int), Jvm.Cond.code ({ cls := "java/lang/StringLatin1", name := "getChar", desc := "([BI)C" } : Jvm.MethodName) jdk_43_method_44_code (2 : Nat) (Option.some Jvm.ClassFile.FieldType.char), Jvm.Cond.code ({ cls := "java/lang/CharacterDataLatin1", name := "isWhitespace", desc := "(I)Z" } : Jvm.MethodName) jdk_116_method_26_code (3 : Nat) (Option.some Jvm.ClassFile.FieldType.boolean), Jvm.Cond.code ({ cls := "java/lang/CharacterDataLatin1", name := "getProperties", desc := "(I)I" } : Jvm.MethodName) jdk_116_method_1_code (4 : Nat) (Option.some Jvm.ClassFile.FieldType.int), Jvm.Cond.code ({ cls := "java/lang/String", name := "length", desc := "()I" } : Jvm.MethodName) jdk_42_method_54_code (1 : Nat) (Option.some Jvm.ClassFile.FieldType.int), Jvm.Cond.code ({ cls := "java/lang/String", name := "coder", desc := "()B" } : Jvm.MethodName) jdk_42_method_152_code (1 : Nat) (Option.some Jvm.ClassFile.FieldType.byte), Jvm.Cond.code ({ cls := "java/lang/String", name := "isEmpty", desc := "()Z" } : Jvm.MethodName) jdk_42_method_55_code (1 : Nat) (Option.some Jvm.ClassFile.FieldType.boolean), Jvm.Cond.code ({ cls := "com/example/orderly_tasks/orderlytasks/ConsoleSettings", name := "longEnough", desc := "(Ljava/lang/String;)Z" } : Jvm.MethodName) prog_1_method_2_code (1 : Nat) (Option.some Jvm.ClassFile.FieldType.boolean), Jvm.Cond.code ({ cls := "java/lang/String", name := "codePointCount", desc := "(II)I" } : Jvm.MethodName) jdk_42_method_59_code (3 : Nat) (Option.some Jvm.ClassFile.FieldType.int), Jvm.Cond.code ({ cls := "java/util/Objects", name := "checkFromToIndex", desc := "(III)I" } : Jvm.MethodName) jdk_31_method_18_code (3 : Nat) (Option.some Jvm.ClassFile.FieldType.int), Jvm.Cond.code ({ cls := "jdk/internal/util/Preconditions", name := "checkFromToIndex", desc := "(IIILjava/util/function/BiFunction;)I" } : Jvm.MethodName) jdk_41_method_12_code (4 : Nat) (Option.some Jvm.ClassFile.FieldType.int), Jvm.Cond.code ({ cls := "com/example/orderly_tasks/orderlytasks/ConsoleSettings", name := "toString", desc := "()Ljava/lang/String;" } : Jvm.MethodName) prog_1_method_3_code (1 : Nat) (Option.some (Jvm.ClassFile.FieldType.object "java/lang/String")), Jvm.Cond.code ({ cls := "java/lang/StringBuilder", name := "<init>", desc := "()V" } : Jvm.MethodName) jdk_67_method_1_code (1 : Nat) (Option.none : Option Jvm.ClassFile.FieldType), Jvm.Cond.code ({ cls := "java/lang/AbstractStringBuilder", name := "<init>", desc := "(I)V" } : Jvm.MethodName) jdk_68_method_2_code (2 : Nat) (Option.none : Option Jvm.ClassFile.FieldType), Jvm.Cond.code ({ cls := "java/lang/StringBuilder", name := "append", desc := "(Ljava/lang/String;)Ljava/lang/StringBuilder;" } : Jvm.MethodName) jdk_67_method_7_code (2 : Nat) (Option.some (Jvm.ClassFile.FieldType.object "java/lang/StringBuilder")), Jvm.Cond.code ({ cls := "java/lang/AbstractStringBuilder", name := "append", desc := "(Ljava/lang/String;)Ljava/lang/AbstractStringBuilder;" } : Jvm.MethodName) jdk_68_method_22_code (3 : Nat) (Option.some (Jvm.ClassFile.FieldType.object "java/lang/AbstractStringBuilder")), Jvm.Cond.code ({ cls := "java/lang/AbstractStringBuilder", name := "ensureCapacityInternal", desc := "(I)V" } : Jvm.MethodName) jdk_68_method_9_code (3 : Nat) (Option.none : Option Jvm.ClassFile.FieldType), Jvm.Cond.code ({ cls := "java/lang/AbstractStringBuilder", name := "newCapacity", desc := "(I)I" } : Jvm.MethodName) jdk_68_method_10_code (6 : Nat) (Option.some Jvm.ClassFile.FieldType.int), Jvm.Cond.code ({ cls := "jdk/internal/util/ArraysSupport", name := "newLength", desc := "(III)I" } : Jvm.MethodName) jdk_48_method_27_code (4 : Nat) (Option.some Jvm.ClassFile.FieldType.int), Jvm.Cond.code ({ cls := "java/lang/Math", name := "max", desc := "(II)I" } : Jvm.MethodName) jdk_29_method_65_code (2 : Nat) (Option.some Jvm.ClassFile.FieldType.int), Jvm.Cond.code ({ cls := "java/util/Arrays", name := "copyOf", desc := "([BI)[B" } : Jvm.MethodName) jdk_65_method_121_code (3 : Nat) (Option.some (Jvm.ClassFile.FieldType.array Jvm.ClassFile.FieldType.byte)), Jvm.Cond.code ({ cls := "java/lang/Math", name := "min", desc := "(II)I" } : Jvm.MethodName) jdk_29_method_69_code (2 : Nat) (Option.some Jvm.ClassFile.FieldType.int), Jvm.Cond.code ({ cls := "java/lang/AbstractStringBuilder", name := "putStringAt", desc := "(ILjava/lang/String;)V" } : Jvm.MethodName) jdk_68_method_73_code (3 : Nat) (Option.none : Option Jvm.ClassFile.FieldType), Jvm.Cond.code ({ cls := "java/lang/AbstractStringBuilder", name := "inflateIfNeededFor", desc := "(Ljava/lang/String;)V" } : Jvm.MethodName) jdk_68_method_71_code (2 : Nat) (Option.none : Option Jvm.ClassFile.FieldType), Jvm.Cond.code ({ cls := "java/lang/String", name := "getBytes", desc := "([BIB)V" } : Jvm.MethodName) jdk_42_method_147_code (4 : Nat) (Option.none : Option Jvm.ClassFile.FieldType), Jvm.Cond.code ({ cls := "java/lang/StringBuilder", name := "append", desc := "(I)Ljava/lang/StringBuilder;" } : Jvm.MethodName) jdk_67_method_15_code (2 : Nat) (Option.some (Jvm.ClassFile.FieldType.object "java/lang/StringBuilder")), Jvm.Cond.code ({ cls := "java/lang/AbstractStringBuilder", name := "append", desc := "(I)Ljava/lang/AbstractStringBuilder;" } : Jvm.MethodName) jdk_68_method_32_code (4 : Nat) (Option.some (Jvm.ClassFile.FieldType.object "java/lang/AbstractStringBuilder")), Jvm.Cond.code ({ cls := "java/lang/Integer", name := "stringSize", desc := "(I)I" } : Jvm.MethodName) jdk_33_method_13_code (4 : Nat) (Option.some Jvm.ClassFile.FieldType.int), Jvm.Cond.code ({ cls := "java/lang/AbstractStringBuilder", name := "isLatin1", desc := "()Z" } : Jvm.MethodName) jdk_68_method_68_code (1 : Nat) (Option.some Jvm.ClassFile.FieldType.boolean), Jvm.Cond.code ({ cls := "java/lang/Integer", name := "getChars", desc := "(II[B)I" } : Jvm.MethodName) jdk_33_method_12_code (7 : Nat) (Option.some Jvm.ClassFile.FieldType.int), Jvm.Cond.code ({ cls := "java/lang/StringBuilder", name := "toString", desc := "()Ljava/lang/String;" } : Jvm.MethodName) jdk_67_method_42_code (1 : Nat) (Option.some (Jvm.ClassFile.FieldType.object "java/lang/String")), Jvm.Cond.code ({ cls := "java/lang/String", name := "<init>", desc := "(Ljava/lang/StringBuilder;)V" } : Jvm.MethodName) jdk_42_method_53_code (2 : Nat) (Option.none : Option Jvm.ClassFile.FieldType), Jvm.Cond.code ({ cls := "java/lang/String", name := "<init>", desc := "(Ljava/lang/AbstractStringBuilder;Ljava/lang/Void;)V" } : Jvm.MethodName) jdk_42_method_150_code (5 : Nat) (Option.none : Option Jvm.ClassFile.FieldType), Jvm.Cond.code ({ cls := "java/lang/AbstractStringBuilder", name := "getValue", desc := "()[B" } : Jvm.MethodName) jdk_68_method_64_code (1 : Nat) (Option.some (Jvm.ClassFile.FieldType.array Jvm.ClassFile.FieldType.byte)), Jvm.Cond.code ({ cls := "java/lang/StringBuilder", name := "length", desc := "()I" } : Jvm.MethodName) jdk_67_method_93_code (1 : Nat) (Option.some Jvm.ClassFile.FieldType.int), Jvm.Cond.code ({ cls := "java/lang/AbstractStringBuilder", name := "length", desc := "()I" } : Jvm.MethodName) jdk_68_method_6_code (1 : Nat) (Option.some Jvm.ClassFile.FieldType.int), Jvm.Cond.code ({ cls := "java/util/Arrays", name := "copyOfRange", desc := "([BII)[B" } : Jvm.MethodName) jdk_65_method_132_code (3 : Nat) (Option.some (Jvm.ClassFile.FieldType.array Jvm.ClassFile.FieldType.byte)), Jvm.Cond.code ({ cls := "java/util/Arrays", name := "copyOfRangeByte", desc := "([BII)[B" } : Jvm.MethodName) jdk_65_method_133_code (5 : Nat) (Option.some (Jvm.ClassFile.FieldType.array Jvm.ClassFile.FieldType.byte)), Jvm.Cond.code ({ cls := "java/util/Arrays", name := "checkLength", desc := "(II)V" } : Jvm.MethodName) jdk_65_method_131_code (2 : Nat) (Option.none : Option Jvm.ClassFile.FieldType), Jvm.Cond.code ({ cls := "com/example/orderly_tasks/orderlytasks/ConsoleSettingsToStringPinLaw", name := "digits", desc := "(I)I" } : Jvm.MethodName) method_3_code (1 : Nat) (Option.some Jvm.ClassFile.FieldType.int), Jvm.Cond.code ({ cls := "com/example/orderly_tasks/orderlytasks/ConsoleSettingsToStringPinLaw", name := "at5", desc := "(Ljava/lang/String;ILjava/lang/String;IILjava/lang/String;)Z" } : Jvm.MethodName) method_7_code (6 : Nat) (Option.some Jvm.ClassFile.FieldType.boolean), Jvm.Cond.code ({ cls := "com/example/orderly_tasks/orderlytasks/ConsoleSettingsToStringPinLaw", name := "at", desc := "(Ljava/lang/String;ILjava/lang/String;IILjava/lang/String;)Z" } : Jvm.MethodName) method_6_code (6 : Nat) (Option.some Jvm.ClassFile.FieldType.boolean), Jvm.Cond.code ({ cls := "java/lang/String", name := "charAt", desc := "(I)C" } : Jvm.MethodName) jdk_42_method_56_code (2 : Nat) (Option.some Jvm.ClassFile.FieldType.char), Jvm.Cond.code ({ cls := "java/lang/StringLatin1", name := "charAt", desc := "([BI)C" } : Jvm.MethodName) jdk_43_method_2_code (2 : Nat) (Option.some Jvm.ClassFile.FieldType.char), Jvm.Cond.code ({ cls := "java/lang/String", name := "checkIndex", desc := "(II)V" } : Jvm.MethodName) jdk_42_method_155_code (2 : Nat) (Option.none : Option Jvm.ClassFile.FieldType), Jvm.Cond.code ({ cls := "jdk/internal/util/Preconditions", name := "checkIndex", desc := "(IILjava/util/function/BiFunction;)I" } : Jvm.MethodName) jdk_41_method_11_code (3 : Nat) (Option.some Jvm.ClassFile.FieldType.int), Jvm.Cond.code ({ cls := "com/example/orderly_tasks/orderlytasks/ConsoleSettingsToStringPinLaw", name := "exp", desc := "(ILjava/lang/String;IILjava/lang/String;)C" } : Jvm.MethodName) method_5_code (6 : Nat) (Option.some Jvm.ClassFile.FieldType.char), Jvm.Cond.code ({ cls := "com/example/orderly_tasks/orderlytasks/ConsoleSettingsToStringPinLaw", name := "pow10", desc := "(I)I" } : Jvm.MethodName) method_4_code (1 : Nat) (Option.some Jvm.ClassFile.FieldType.int), Jvm.Cond.code ({ cls := "java/lang/String", name := "valueOf", desc := "(C)Ljava/lang/String;" } : Jvm.MethodName) jdk_42_method_139_code (1 : Nat) (Option.some (Jvm.ClassFile.FieldType.object "java/lang/String")), Jvm.Cond.code ({ cls := "java/lang/StringLatin1", name := "canEncode", desc := "(C)Z" } : Jvm.MethodName) jdk_43_method_3_code (1 : Nat) (Option.some Jvm.ClassFile.FieldType.boolean), Jvm.Cond.code ({ cls := "java/lang/StringLatin1", name := "toBytes", desc := "(C)[B" } : Jvm.MethodName) jdk_43_method_46_code (1 : Nat) (Option.some (Jvm.ClassFile.FieldType.array Jvm.ClassFile.FieldType.byte)), Jvm.Cond.code ({ cls := "java/lang/String", name := "<init>", desc := "([BB)V" } : Jvm.MethodName) jdk_42_method_151_code (3 : Nat) (Option.none : Option Jvm.ClassFile.FieldType)]
set_option maxRecDepth 65536 in
theorem codes_eq : words1.filter isCode = codes1 := rfl
theorem w_codes : ∀ c ∈ words1.filter isCode, c.before args0 about1 = true := by
  rw [codes_eq]
  intro c hc
  simp only [codes1, List.mem_cons, List.not_mem_nil, or_false] at hc
  rcases hc with rfl | rfl | rfl | rfl | rfl | rfl | rfl | rfl | rfl | rfl | rfl | rfl | rfl | rfl | rfl | rfl | rfl | rfl | rfl | rfl | rfl | rfl | rfl | rfl | rfl | rfl | rfl | rfl | rfl | rfl | rfl | rfl | rfl | rfl | rfl | rfl | rfl | rfl | rfl | rfl | rfl | rfl | rfl | rfl | rfl | rfl | rfl | rfl | rfl | rfl | rfl | rfl | rfl | rfl | rfl | rfl | rfl | rfl | rfl | rfl | rfl | rfl | rfl | rfl | rfl
  · exact w_c0
  · exact w_c1
  · exact w_c2
  · exact w_c3
  · exact w_c4
  · exact w_c5
  · exact w_c6
  · exact w_c7
  · exact w_c8
  · exact w_c9
  · exact w_c10
  · exact w_c11
  · exact w_c12
  · exact w_c13
  · exact w_c14
  · exact w_c15
  · exact w_c16
  · exact w_c17
  · exact w_c18
  · exact w_c19
  · exact w_c20
  · exact w_c21
  · exact w_c22
  · exact w_c23
  · exact w_c24
  · exact w_c25
  · exact w_c26
  · exact w_c27
  · exact w_c28
  · exact w_c29
  · exact w_c30
  · exact w_c31
  · exact w_c32
  · exact w_c33
  · exact w_c34
  · exact w_c35
  · exact w_c36
  · exact w_c37
  · exact w_c38
  · exact w_c39
  · exact w_c40
  · exact w_c41
  · exact w_c42
  · exact w_c43
  · exact w_c44
  · exact w_c45
  · exact w_c46
  · exact w_c47
  · exact w_c48
  · exact w_c49
  · exact w_c50
  · exact w_c51
  · exact w_c52
  · exact w_c53
  · exact w_c54
  · exact w_c55
  · exact w_c56
  · exact w_c57
  · exact w_c58
  · exact w_c59
  · exact w_c60
  · exact w_c61
  · exact w_c62
  · exact w_c63
  · exact w_c64
set_option maxRecDepth 65536 in
theorem w_t1 : (words1.take 24).all (fun c => isCode c || c.before args0 about1) = true := by decide +kernel
set_option maxRecDepth 65536 in
theorem w_t2 : ((words1.drop 24).take 24).all (fun c => isCode c || c.before args0 about1) = true := by decide +kernel
set_option maxRecDepth 65536 in
theorem w_t3 : (((words1.drop 24).drop 24).take 24).all (fun c => isCode c || c.before args0 about1) = true := by decide +kernel
set_option maxRecDepth 65536 in
theorem w_t4 : ((((words1.drop 24).drop 24).drop 24).take 24).all (fun c => isCode c || c.before args0 about1) = true := by decide +kernel
set_option maxRecDepth 65536 in
theorem w_t5 : (((((words1.drop 24).drop 24).drop 24).drop 24).take 24).all (fun c => isCode c || c.before args0 about1) = true := by decide +kernel
set_option maxRecDepth 65536 in
theorem w_t6 : ((((((words1.drop 24).drop 24).drop 24).drop 24).drop 24).take 24).all (fun c => isCode c || c.before args0 about1) = true := by decide +kernel
set_option maxRecDepth 65536 in
theorem w_t7 : (((((((words1.drop 24).drop 24).drop 24).drop 24).drop 24).drop 24).take 24).all (fun c => isCode c || c.before args0 about1) = true := by decide +kernel
set_option maxRecDepth 65536 in
theorem w_t8 : ((((((((words1.drop 24).drop 24).drop 24).drop 24).drop 24).drop 24).drop 24).take 24).all (fun c => isCode c || c.before args0 about1) = true := by decide +kernel
set_option maxRecDepth 65536 in
theorem w_t9 : (((((((((words1.drop 24).drop 24).drop 24).drop 24).drop 24).drop 24).drop 24).drop 24).take 24).all (fun c => isCode c || c.before args0 about1) = true := by decide +kernel
set_option maxRecDepth 65536 in
theorem w_t10 : ((((((((((words1.drop 24).drop 24).drop 24).drop 24).drop 24).drop 24).drop 24).drop 24).drop 24).take 24).all (fun c => isCode c || c.before args0 about1) = true := by decide +kernel
set_option maxRecDepth 65536 in
theorem w_t11 : (((((((((((words1.drop 24).drop 24).drop 24).drop 24).drop 24).drop 24).drop 24).drop 24).drop 24).drop 24).take 24).all (fun c => isCode c || c.before args0 about1) = true := by decide +kernel
set_option maxRecDepth 65536 in
theorem w_t12 : ((((((((((((words1.drop 24).drop 24).drop 24).drop 24).drop 24).drop 24).drop 24).drop 24).drop 24).drop 24).drop 24).take 24).all (fun c => isCode c || c.before args0 about1) = true := by decide +kernel
set_option maxRecDepth 65536 in
theorem w_t13 : (((((((((((((words1.drop 24).drop 24).drop 24).drop 24).drop 24).drop 24).drop 24).drop 24).drop 24).drop 24).drop 24).drop 24).take 24).all (fun c => isCode c || c.before args0 about1) = true := by decide +kernel
set_option maxRecDepth 65536 in
theorem w_t14 : (((((((((((((words1.drop 24).drop 24).drop 24).drop 24).drop 24).drop 24).drop 24).drop 24).drop 24).drop 24).drop 24).drop 24).drop 24).all (fun c => isCode c || c.before args0 about1) = true := by decide +kernel
theorem w_tables : (allAtoms (Jvm.Cond.code x code maxLocals ret :: tables_1)).before args0 about1 = true := by
  rw [allAtoms_all]
  show words1.all (fun c => c.before args0 about1) = true
  refine all_split ?_ w_codes
  rw [← List.take_append_drop 24 words1, List.all_append, w_t1, ← List.take_append_drop 24 (words1.drop 24), List.all_append, w_t2, ← List.take_append_drop 24 ((words1.drop 24).drop 24), List.all_append, w_t3, ← List.take_append_drop 24 (((words1.drop 24).drop 24).drop 24), List.all_append, w_t4, ← List.take_append_drop 24 ((((words1.drop 24).drop 24).drop 24).drop 24), List.all_append, w_t5, ← List.take_append_drop 24 (((((words1.drop 24).drop 24).drop 24).drop 24).drop 24), List.all_append, w_t6, ← List.take_append_drop 24 ((((((words1.drop 24).drop 24).drop 24).drop 24).drop 24).drop 24), List.all_append, w_t7, ← List.take_append_drop 24 (((((((words1.drop 24).drop 24).drop 24).drop 24).drop 24).drop 24).drop 24), List.all_append, w_t8, ← List.take_append_drop 24 ((((((((words1.drop 24).drop 24).drop 24).drop 24).drop 24).drop 24).drop 24).drop 24), List.all_append, w_t9, ← List.take_append_drop 24 (((((((((words1.drop 24).drop 24).drop 24).drop 24).drop 24).drop 24).drop 24).drop 24).drop 24), List.all_append, w_t10, ← List.take_append_drop 24 ((((((((((words1.drop 24).drop 24).drop 24).drop 24).drop 24).drop 24).drop 24).drop 24).drop 24).drop 24), List.all_append, w_t11, ← List.take_append_drop 24 (((((((((((words1.drop 24).drop 24).drop 24).drop 24).drop 24).drop 24).drop 24).drop 24).drop 24).drop 24).drop 24), List.all_append, w_t12, ← List.take_append_drop 24 ((((((((((((words1.drop 24).drop 24).drop 24).drop 24).drop 24).drop 24).drop 24).drop 24).drop 24).drop 24).drop 24).drop 24), List.all_append, w_t13, w_t14]
  rfl
set_option maxRecDepth 65536 in
theorem w_rest : rest_1_c.before args0 about1 = true := by decide +kernel
set_option maxRecDepth 65536 in
theorem w_case : (Jvm.Cond.and given_1 narrow_1).before args0 about1 = true := by decide +kernel
set_option maxRecDepth 65536 in
theorem w_consts : constsHeld consts_1 about1 := Jvm.Lit.constsHeldB_iff.mp (by decide +kernel)
theorem w_applies : (headSpec (Jvm.Cond.code x code maxLocals ret :: tables_1) room_1).applies x e0.platform about1 = true :=
  (Spec.applies_iff w_frames).mpr ⟨w_running, w_runnable, w_alone, w_named, w_hears, w_ripe, w_room, w_tables⟩
theorem atStart : AtStart classFile x code maxLocals ret World_1 tables_1 room_1 Calls_1 rest_1 Pre_1 launch0 p0 e0 about1 theMethod args0 below0 :=
  ⟨lists_1, trivial, launch0.admits_env _ _ _, launch0.least_env, fairChoices_fair.cas, fairChoices_fair.clock, w_frames, w_args, w_heap, w_applies, ⟨w_consts, trivial⟩, w_rest, w_case⟩
end start1
theorem witness_1 : WitnessClaimed_1 := ⟨start1.p0, start1.e0, start1.about1, start1.theMethod, start1.args0, start1.below0, start1.atStart⟩
end Jvm.Pilot.@@N@@
