import JvmDerived
import JvmDerived.Pilot.@@N@@Statement
import JvmDerived.Pilot.@@N@@Code
set_option linter.unusedVariables false
set_option linter.unusedSimpArgs false
namespace Jvm.Road
open Jvm Jvm.ClassFile Sem Op Lib Jvm.Free Jvm.Stand Jvm.LawKit Jvm.RoadKit Bundle
/-! THE ROAD LAYER: one goal 'Go' for a walk, every step a law 'Go next -> Go here'; a callee's summary 'Con'. -/
abbrev Bdy : Type := MethodName × ByteArray × Nat × Option FieldType × Room
abbrev Bdy.y (B : Bdy) : MethodName := B.1
abbrev Bdy.bs (B : Bdy) : ByteArray := B.2.1
abbrev Bdy.ml (B : Bdy) : Nat := B.2.2.1
abbrev Bdy.rt (B : Bdy) : Option FieldType := B.2.2.2.1
abbrev Bdy.rm (B : Bdy) : Room := B.2.2.2.2
abbrev Dyn : Type := Program × Env × State × MethodId × Array Value × List Frame × Method × Code
abbrev Dyn.p (D : Dyn) : Program := D.1
abbrev Dyn.e (D : Dyn) : Env := D.2.1
abbrev Dyn.s (D : Dyn) : State := D.2.2.1
abbrev Dyn.m (D : Dyn) : MethodId := D.2.2.2.1
abbrev Dyn.args (D : Dyn) : Array Value := D.2.2.2.2.1
abbrev Dyn.bl (D : Dyn) : List Frame := D.2.2.2.2.2.1
abbrev Dyn.meth (D : Dyn) : Method := D.2.2.2.2.2.2.1
abbrev Dyn.c (D : Dyn) : Code := D.2.2.2.2.2.2.2
/-- a cell that this law's run has made and that no constant of EL stands for: it may be written -/
def Own (Z : State) (EL : List (String × Nat)) (n0 : Nat) (vm : Vm) (h : Heap) (x : Addr) : Prop := Safe Z EL vm h x ∧ n0 ≤ x ∧ x < h.size
def Ok (B : Bdy) (D : Dyn) : Prop := D.p.tables.exec = Jvm.exec ∧ D.c.code = B.bs ∧ D.c.maxLocals = B.ml ∧ D.meth.sig.returnType = B.rt ∧ D.meth.locks = false ∧ D.meth.name = B.y.name
def Inv (l : Launch) (Z : State) (EL : List (String × Nat)) (n0 : Nat) (kn : Bool) (B : Bdy) (D : Dyn) (h : Heap) (σ : Addr → Prop) (ce sl : Nat) (T : State) (vm0 : Vm) : Prop :=
  ∃ (k0 : Nat) (locs : List Loc), Stand D.p l D.e B.rm (D.s.setVm vm0) D.m D.args D.bl D.meth D.c T locs ce sl ∧ T.heap = h ∧ D.s.Since vm0 k0 ∧ k0 ≤ h.size ∧ Z.Warmed39 vm0 ∧ vm0.findClass B.y.cls = some D.m.cls ∧
    CHr Z EL D.s.vm D.s.heap vm0 h ∧ Fr n0 locs ∧ Old Z n0 h ∧ (∀ x, σ x → Own Z EL n0 vm0 h x) ∧ (kn = true → vm0.MethodsKnown ∧ vm0.FramesKnown D.bl)
abbrev Post : Type := Option Value → Heap → (Addr → Prop) → Prop
def Ends (Z : State) (EL : List (String × Nat)) (n0 : Nat) (B : Bdy) (D : Dyn) (Q : Post) (t0 : State) : Prop :=
  ∃ s₂ o, Steps D.p.tables D.e D.bl t0 s₂ ∧ s₂.status = .running ∧ Ended s₂ D.bl o ∧
    ∃ v L, o = .returned v ∧ Q v s₂.heap (Own Z EL n0 s₂.vm s₂.heap) ∧ Fr n0 L ∧ CHr Z EL D.s.vm D.s.heap s₂.vm s₂.heap ∧ Old Z n0 s₂.heap ∧ ReturnedEndW D.s o s₂ L B.rm.cells B.rm.slots
def Go (l : Launch) (Z : State) (a0 : Array Value) (EL : List (String × Nat)) (n0 : Nat) (kn : Bool) (B : Bdy) (D : Dyn) (Q : Post) (h : Heap) (σ : Addr → Prop) (ce sl : Nat) (pc : Nat) (Ls : Array Slot) (st : List Value) : Prop :=
  Ok B D → EW Z a0 EL → ∀ (T : State) (vm0 : Vm), Inv l Z EL n0 kn B D h σ ce sl T vm0 → Ends Z EL n0 B D Q (T.setTop (mkF D.m pc Ls st))
/-- what is asked of a callee -/
def Con (l : Launch) (Z : State) (EL : List (String × Nat)) (n0 : Nat) (kn : Bool) (B : Bdy) (ws : List Jvm.Cond) (σ : Addr → Prop) (as : Array Value) (h : Heap) (Q : Post) : Prop :=
  MetFree l B.y (head1 (Jvm.Cond.code B.y B.bs B.ml B.rt :: ws) B.rm)
    (fun a U => a = as ∧ Z.Warmed39 U.vm ∧ U.heap = h ∧ CHv Z EL U.vm h ∧ Old Z n0 h ∧ ∀ x, σ x → Own Z EL n0 U.vm h x)
    (fun _ _ bl s _ => kn = true → s.vm.MethodsKnown ∧ s.vm.FramesKnown bl)
    (fun _ U o U' => ∃ v L, o = .returned v ∧ Q v U'.heap (Own Z EL n0 U'.vm U'.heap) ∧ Fr n0 L ∧ CHr Z EL U.vm U.heap U'.vm U'.heap ∧ Old Z n0 U'.heap ∧ ReturnedEndW U o U' L B.rm.cells B.rm.slots)
def push : Option Value → List Value → List Value
  | some v, r => v :: r
  | none, r => r
theorem push_eq (v : Option Value) (r : List Value) : v.toList ++ r = push v r := by cases v <;> rfl
section Laws
variable {l : Launch} {Z : State} {a0 : Array Value} {EL : List (String × Nat)} {n0 : Nat} {kn : Bool} {B : Bdy} {D : Dyn} {Q : Post} {h h' : Heap} {σ : Addr → Prop} {ce sl : Nat} {Ls : Array Slot} {st : List Value}
theorem Con.of {ws : List Jvm.Cond} (hpn : plainFor B.y = true) (hEW : EW Z a0 EL) {as : Array Value} (Ls0 : Array Slot) (hef : ∀ m, entryFrame m as B.ml = mkF m 0 Ls0 [])
    (body : ∀ D : Dyn, D.s.heap = h → Go l Z a0 EL n0 kn B D Q h σ 0 0 0 Ls0 []) : Con l Z EL n0 kn B ws σ as h Q := by
  refine MetFree.of_bodySF hpn hisR ?_
  intro p e s m args below meth c s₁ Bd hml hP hK
  obtain ⟨rfl, hZ, hh, hC, hO, hσ⟩ := hP
  have hnm := (name_of_methodNamed Bd.named Bd.method).1
  have hown := findClass_of_methodNamed Bd.named
  have X0 : Stand p l e B.rm s m args below meth c s₁ [] 0 0 := Stand.of_body Bd
  have e0 : s₁.heap = h := by rw [← hh, Bd.state]; rfl
  obtain ⟨s2, o, st, hr, he, r⟩ := body (p, e, s, m, args, below, meth, c) hh ⟨Bd.exec, Bd.bytes, hml, Bd.returns, Bd.notSynchronized, hnm⟩ hEW s₁ s.vm
    ⟨0, [], X0, e0, (State.WarmedH.refl s).since 0, Nat.zero_le _, hZ, hown, by subst hh; exact CHr.refl hC, Fr.nil n0, hO, hσ, hK⟩
  exact ⟨s2, o, castTop (hef m) st, hr, he, r⟩
/-- one plain step -/
theorem Go.step {pc pc' : Nat} {Ls' : Array Slot} {st' : List Value} (k : ∀ T, At T D.m D.c D.bl → D.p.tables.exec = Jvm.exec → D.c.code = B.bs → ∀ t, Steps D.p.tables D.e D.bl (T.setTop (mkF D.m pc' Ls' st')) t → Steps D.p.tables D.e D.bl (T.setTop (mkF D.m pc Ls st)) t)
    (r : Go l Z a0 EL n0 kn B D Q h σ ce sl pc' Ls' st') : Go l Z a0 EL n0 kn B D Q h σ ce sl pc Ls st := by
  intro ok ew T vm0 I
  obtain ⟨s2, o, q, rest⟩ := r ok ew T vm0 I
  obtain ⟨k0, locs, X, -⟩ := I
  exact ⟨s2, o, k T X.here ok.1 ok.2.1 _ q, rest⟩
/-- fewer permissions, more room taken: what was shown serves -/
theorem Go.weaken {pc : Nat} {σ' : Addr → Prop} {ce' sl' : Nat} (hσ : ∀ x, σ' x → σ x) (hc : ce ≤ ce') (hs : sl ≤ sl') (r : Go l Z a0 EL n0 kn B D Q h σ' ce' sl' pc Ls st) : Go l Z a0 EL n0 kn B D Q h σ ce sl pc Ls st := by
  intro ok ew T vm0 I
  obtain ⟨k0, locs, X, h1, h2, h3, h4, h5, h6, h7, h8, h9, h10⟩ := I
  exact r ok ew T vm0 ⟨k0, locs, X.mono hc hs, h1, h2, h3, h4, h5, h6, h7, h8, fun x q => h9 x (hσ x q), h10⟩
/-- facts that the walk bears -/
theorem Go.old {pc : Nat} (r : Old Z n0 h → Go l Z a0 EL n0 kn B D Q h σ ce sl pc Ls st) : Go l Z a0 EL n0 kn B D Q h σ ce sl pc Ls st := by
  intro ok ew T vm0 I
  refine r ?_ ok ew T vm0 I
  obtain ⟨k0, locs, X, h1, h2, h3, h4, h5, h6, h7, h8, h9, h10⟩ := I
  exact h8
end Laws
end Jvm.Road
namespace Jvm.Road
open Jvm Jvm.ClassFile Sem Op Lib Jvm.Free Jvm.Stand Jvm.LawKit Jvm.RoadKit Bundle
theorem Go.ownAll {l : Launch} {Z : State} {a0 : Array Value} {EL : List (String × Nat)} {n0 : Nat} {kn : Bool} {B : Bdy} {D : Dyn} {Q : Post} {h : Heap} {σ : Addr → Prop} {ce sl : Nat} {Ls : Array Slot} {st : List Value} {pc : Nat}
    (r : (∀ x, σ x → n0 ≤ x ∧ x < h.size) → Go l Z a0 EL n0 kn B D Q h σ ce sl pc Ls st) : Go l Z a0 EL n0 kn B D Q h σ ce sl pc Ls st := by
  intro ok ew T vm0 I
  refine r ?_ ok ew T vm0 I
  obtain ⟨k0, locs, X, h1, h2, h3, h4, h5, h6, h7, h8, h9, h10⟩ := I
  exact fun x hx => (h9 x hx).2
theorem keep_more {h h' : Heap} {ws : List Addr} (K : Keep h h' []) : Keep h h' ws := ⟨K.1, fun x c q _ => K.2.1 x c q nin0, K.2.2⟩
end Jvm.Road
namespace Jvm.Road
open Jvm Jvm.ClassFile Sem Op Lib Jvm.Free Jvm.Stand Jvm.LawKit Jvm.RoadKit Bundle
theorem laid0 : Jvm.Sym.laidSlots [] = [] := rfl
theorem laid1 {v : Value} {vs : List Value} {L : List Slot} (hc : v.category = 1) (h : Jvm.Sym.laidSlots vs = L) : Jvm.Sym.laidSlots (v :: vs) = .val v :: L := by
  rw [Jvm.Sym.laidSlots, hc, h]; rfl
theorem laid2 {v : Value} {vs : List Value} {L : List Slot} (hc : v.category = 2) (h : Jvm.Sym.laidSlots vs = L) : Jvm.Sym.laidSlots (v :: vs) = .val v :: .second :: L := by
  rw [Jvm.Sym.laidSlots, hc, h]; rfl
theorem ent {m : MethodId} {args : Array Value} {n k : Nat} {Ls : Array Slot} {L : List Slot} (h : Jvm.Sym.laidSlots args.toList = L) (hk : n - L.length = k) (hL : L ++ List.replicate k .unset = Ls.toList) : entryFrame m args n = mkF m 0 Ls [] := by
  have : argsToLocals args n = Ls := Array.toList_inj.mp (by rw [Jvm.Sym.argsToLocals_toList, h, hk]; exact hL)
  unfold entryFrame
  rw [this]
end Jvm.Road
namespace Jvm.Road
open Jvm Jvm.ClassFile Sem Op Lib Jvm.Free Jvm.Stand Jvm.LawKit Jvm.RoadKit Bundle
/-- what i2c leaves -/
abbrev chr (x : Int32) : Int32 := x.toUInt32.toUInt16.toUInt32.toInt32
section Plain
variable {l : Launch} {Z : State} {a0 : Array Value} {EL : List (String × Nat)} {n0 : Nat} {kn : Bool} {B : Bdy} {D : Dyn} {Q : Post} {h : Heap} {σ : Addr → Prop} {ce sl : Nat} {Ls : Array Slot} {st : List Value}
theorem aload (pc : Nat) {k : Nat} {v : Value} (hd : decode B.bs pc = .ok (.aload k, 2)) (hl : Ls[k]? = some (.val v))  (r : Go l Z a0 EL n0 kn B D Q h σ ce sl (pc + 2) Ls (v :: st)) (hv : v.isRef = true := by rfl) : Go l Z a0 EL n0 kn B D Q h σ ce sl pc Ls st :=
  Go.step (fun T hA hx hb t q => XS.aload hA hx rfl (Jvm.hb hb hd) hl hv q) r
theorem aloadN (pc : Nat) {k : Fin 4} {v : Value} (hd : decode B.bs pc = .ok (.aload_n k, 1)) (hl : Ls[k.val]? = some (.val v))  (r : Go l Z a0 EL n0 kn B D Q h σ ce sl (pc + 1) Ls (v :: st)) (hv : v.isRef = true := by rfl) : Go l Z a0 EL n0 kn B D Q h σ ce sl pc Ls st :=
  Go.step (fun T hA hx hb t q => XS.aloadN hA hx rfl (Jvm.hb hb hd) hl hv q) r
theorem iload (pc : Nat) {k : Nat} {v : Int32} (hd : decode B.bs pc = .ok (.iload k, 2)) (hl : Ls[k]? = some (.val (.int v))) (r : Go l Z a0 EL n0 kn B D Q h σ ce sl (pc + 2) Ls (.int v :: st))  : Go l Z a0 EL n0 kn B D Q h σ ce sl pc Ls st :=
  Go.step (fun T hA hx hb t q => XS.iload hA hx rfl (Jvm.hb hb hd) hl q) r
theorem iloadN (pc : Nat) {k : Fin 4} {v : Int32} (hd : decode B.bs pc = .ok (.iload_n k, 1)) (hl : Ls[k.val]? = some (.val (.int v))) (r : Go l Z a0 EL n0 kn B D Q h σ ce sl (pc + 1) Ls (.int v :: st))  : Go l Z a0 EL n0 kn B D Q h σ ce sl pc Ls st :=
  Go.step (fun T hA hx hb t q => XS.iloadN hA hx rfl (Jvm.hb hb hd) hl q) r
theorem lload (pc : Nat) {k : Nat} {v : Int64} (hd : decode B.bs pc = .ok (.lload k, 2)) (hl : Ls[k]? = some (.val (.long v))) (r : Go l Z a0 EL n0 kn B D Q h σ ce sl (pc + 2) Ls (.long v :: st))  : Go l Z a0 EL n0 kn B D Q h σ ce sl pc Ls st :=
  Go.step (fun T hA hx hb t q => XT.lload hA hx rfl (Jvm.hb hb hd) hl q) r
theorem lloadN (pc : Nat) {k : Fin 4} {v : Int64} (hd : decode B.bs pc = .ok (.lload_n k, 1)) (hl : Ls[k.val]? = some (.val (.long v))) (r : Go l Z a0 EL n0 kn B D Q h σ ce sl (pc + 1) Ls (.long v :: st))  : Go l Z a0 EL n0 kn B D Q h σ ce sl pc Ls st :=
  Go.step (fun T hA hx hb t q => XT.lloadN hA hx rfl (Jvm.hb hb hd) hl q) r
theorem iconst (pc : Nat) {i : Int} (v : Int32) (hd : decode B.bs pc = .ok (.iconst i, 1)) (hv : Int32.ofInt i = v) (r : Go l Z a0 EL n0 kn B D Q h σ ce sl (pc + 1) Ls (.int v :: st))  : Go l Z a0 EL n0 kn B D Q h σ ce sl pc Ls st :=
  Go.step (fun T hA hx hb t q => XT.iconstV hA hx rfl v (Jvm.hb hb hd) hv q) r
theorem bipush (pc : Nat) {i : Int} (v : Int32) (hd : decode B.bs pc = .ok (.bipush i, 2)) (hv : (Int8.ofInt i).toInt32 = v) (r : Go l Z a0 EL n0 kn B D Q h σ ce sl (pc + 2) Ls (.int v :: st))  : Go l Z a0 EL n0 kn B D Q h σ ce sl pc Ls st :=
  Go.step (fun T hA hx hb t q => XT.bipushV hA hx rfl v (Jvm.hb hb hd) hv q) r
theorem sipush (pc : Nat) {i : Int} (v : Int32) (hd : decode B.bs pc = .ok (.sipush i, 3)) (hv : (Int16.ofInt i).toInt32 = v) (r : Go l Z a0 EL n0 kn B D Q h σ ce sl (pc + 3) Ls (.int v :: st))  : Go l Z a0 EL n0 kn B D Q h σ ce sl pc Ls st :=
  Go.step (fun T hA hx hb t q => XT.sipushV hA hx rfl v (Jvm.hb hb hd) hv q) r
theorem lconst (pc : Nat) {k : Fin 2} (v : Int64) (hd : decode B.bs pc = .ok (.lconst k, 1)) (hv : Int64.ofNat k = v) (r : Go l Z a0 EL n0 kn B D Q h σ ce sl (pc + 1) Ls (.long v :: st))  : Go l Z a0 EL n0 kn B D Q h σ ce sl pc Ls st :=
  Go.step (fun T hA hx hb t q => XT.lconstV hA hx rfl v (Jvm.hb hb hd) hv q) r
theorem aconstNull (pc : Nat)  (hd : decode B.bs pc = .ok (.aconst_null, 1))  (r : Go l Z a0 EL n0 kn B D Q h σ ce sl (pc + 1) Ls (.null :: st))  : Go l Z a0 EL n0 kn B D Q h σ ce sl pc Ls st :=
  Go.step (fun T hA hx hb t q => XS.aconstNull hA hx rfl (Jvm.hb hb hd) q) r
theorem iadd (pc : Nat) {x y : Int32} (hd : decode B.bs pc = .ok (.iadd, 1))  (r : Go l Z a0 EL n0 kn B D Q h σ ce sl (pc + 1) Ls (.int (x + y) :: st))  : Go l Z a0 EL n0 kn B D Q h σ ce sl pc Ls (.int y :: .int x :: st) :=
  Go.step (fun T hA hx hb t q => XS.iadd hA hx rfl (Jvm.hb hb hd) rfl q) r
theorem isub (pc : Nat) {x y : Int32} (hd : decode B.bs pc = .ok (.isub, 1))  (r : Go l Z a0 EL n0 kn B D Q h σ ce sl (pc + 1) Ls (.int (x - y) :: st))  : Go l Z a0 EL n0 kn B D Q h σ ce sl pc Ls (.int y :: .int x :: st) :=
  Go.step (fun T hA hx hb t q => XS.isub hA hx rfl (Jvm.hb hb hd) rfl q) r
theorem iand (pc : Nat) {x y : Int32} (hd : decode B.bs pc = .ok (.iand, 1))  (r : Go l Z a0 EL n0 kn B D Q h σ ce sl (pc + 1) Ls (.int (x &&& y) :: st))  : Go l Z a0 EL n0 kn B D Q h σ ce sl pc Ls (.int y :: .int x :: st) :=
  Go.step (fun T hA hx hb t q => XS.iand hA hx rfl (Jvm.hb hb hd) rfl q) r
theorem imul (pc : Nat) {x y : Int32} (hd : decode B.bs pc = .ok (.imul, 1))  (r : Go l Z a0 EL n0 kn B D Q h σ ce sl (pc + 1) Ls (.int (x * y) :: st))  : Go l Z a0 EL n0 kn B D Q h σ ce sl pc Ls (.int y :: .int x :: st) :=
  Go.step (fun T hA hx hb t q => XS.imul hA hx rfl (Jvm.hb hb hd) rfl q) r
theorem ixor (pc : Nat) {x y : Int32} (hd : decode B.bs pc = .ok (.ixor, 1))  (r : Go l Z a0 EL n0 kn B D Q h σ ce sl (pc + 1) Ls (.int (x ^^^ y) :: st))  : Go l Z a0 EL n0 kn B D Q h σ ce sl pc Ls (.int y :: .int x :: st) :=
  Go.step (fun T hA hx hb t q => XT.ixor hA hx rfl (Jvm.hb hb hd) rfl q) r
theorem ior (pc : Nat) {x y : Int32} (hd : decode B.bs pc = .ok (.ior, 1))  (r : Go l Z a0 EL n0 kn B D Q h σ ce sl (pc + 1) Ls (.int (x ||| y) :: st))  : Go l Z a0 EL n0 kn B D Q h σ ce sl pc Ls (.int y :: .int x :: st) :=
  Go.step (fun T hA hx hb t q => XT.ior hA hx rfl (Jvm.hb hb hd) rfl q) r
theorem ishl (pc : Nat) {x y : Int32} (hd : decode B.bs pc = .ok (.ishl, 1))  (r : Go l Z a0 EL n0 kn B D Q h σ ce sl (pc + 1) Ls (.int (x <<< (y &&& 31)) :: st))  : Go l Z a0 EL n0 kn B D Q h σ ce sl pc Ls (.int y :: .int x :: st) :=
  Go.step (fun T hA hx hb t q => XT.ishl hA hx rfl (Jvm.hb hb hd) rfl q) r
theorem ishr (pc : Nat) {x y : Int32} (hd : decode B.bs pc = .ok (.ishr, 1))  (r : Go l Z a0 EL n0 kn B D Q h σ ce sl (pc + 1) Ls (.int (x >>> (y &&& 31)) :: st))  : Go l Z a0 EL n0 kn B D Q h σ ce sl pc Ls (.int y :: .int x :: st) :=
  Go.step (fun T hA hx hb t q => XT.ishr hA hx rfl (Jvm.hb hb hd) rfl q) r
theorem iushr (pc : Nat) {x y : Int32} (hd : decode B.bs pc = .ok (.iushr, 1))  (r : Go l Z a0 EL n0 kn B D Q h σ ce sl (pc + 1) Ls (.int (XT.ushr x y) :: st))  : Go l Z a0 EL n0 kn B D Q h σ ce sl pc Ls (.int y :: .int x :: st) :=
  Go.step (fun T hA hx hb t q => XT.iushr hA hx rfl (Jvm.hb hb hd) rfl q) r
theorem idiv (pc : Nat) {x y : Int32} (hd : decode B.bs pc = .ok (.idiv, 1)) (hy : y ≠ 0) (r : Go l Z a0 EL n0 kn B D Q h σ ce sl (pc + 1) Ls (.int (x / y) :: st))  : Go l Z a0 EL n0 kn B D Q h σ ce sl pc Ls (.int y :: .int x :: st) :=
  Go.step (fun T hA hx hb t q => XS.idiv hA hx rfl (Jvm.hb hb hd) rfl hy q) r
theorem irem (pc : Nat) {x y : Int32} (hd : decode B.bs pc = .ok (.irem, 1)) (hy : y ≠ 0) (r : Go l Z a0 EL n0 kn B D Q h σ ce sl (pc + 1) Ls (.int (x % y) :: st))  : Go l Z a0 EL n0 kn B D Q h σ ce sl pc Ls (.int y :: .int x :: st) :=
  Go.step (fun T hA hx hb t q => XS.irem hA hx rfl (Jvm.hb hb hd) rfl hy (by rw [irem_eq_mod]; exact q)) r
theorem ineg (pc : Nat) {x : Int32} (hd : decode B.bs pc = .ok (.ineg, 1))  (r : Go l Z a0 EL n0 kn B D Q h σ ce sl (pc + 1) Ls (.int (-x) :: st))  : Go l Z a0 EL n0 kn B D Q h σ ce sl pc Ls (.int x :: st) :=
  Go.step (fun T hA hx hb t q => XS.ineg hA hx rfl (Jvm.hb hb hd) rfl q) r
theorem ladd (pc : Nat) {x y : Int64} (hd : decode B.bs pc = .ok (.ladd, 1))  (r : Go l Z a0 EL n0 kn B D Q h σ ce sl (pc + 1) Ls (.long (x + y) :: st))  : Go l Z a0 EL n0 kn B D Q h σ ce sl pc Ls (.long y :: .long x :: st) :=
  Go.step (fun T hA hx hb t q => XT.ladd hA hx rfl (Jvm.hb hb hd) rfl q) r
theorem lsub (pc : Nat) {x y : Int64} (hd : decode B.bs pc = .ok (.lsub, 1))  (r : Go l Z a0 EL n0 kn B D Q h σ ce sl (pc + 1) Ls (.long (x - y) :: st))  : Go l Z a0 EL n0 kn B D Q h σ ce sl pc Ls (.long y :: .long x :: st) :=
  Go.step (fun T hA hx hb t q => XT.lsub hA hx rfl (Jvm.hb hb hd) rfl q) r
theorem land (pc : Nat) {x y : Int64} (hd : decode B.bs pc = .ok (.land, 1))  (r : Go l Z a0 EL n0 kn B D Q h σ ce sl (pc + 1) Ls (.long (x &&& y) :: st))  : Go l Z a0 EL n0 kn B D Q h σ ce sl pc Ls (.long y :: .long x :: st) :=
  Go.step (fun T hA hx hb t q => XT.land hA hx rfl (Jvm.hb hb hd) rfl q) r
theorem lmul (pc : Nat) {x y : Int64} (hd : decode B.bs pc = .ok (.lmul, 1))  (r : Go l Z a0 EL n0 kn B D Q h σ ce sl (pc + 1) Ls (.long (x * y) :: st))  : Go l Z a0 EL n0 kn B D Q h σ ce sl pc Ls (.long y :: .long x :: st) :=
  Go.step (fun T hA hx hb t q => XT.lmul hA hx rfl (Jvm.hb hb hd) rfl q) r
theorem lxor (pc : Nat) {x y : Int64} (hd : decode B.bs pc = .ok (.lxor, 1))  (r : Go l Z a0 EL n0 kn B D Q h σ ce sl (pc + 1) Ls (.long (x ^^^ y) :: st))  : Go l Z a0 EL n0 kn B D Q h σ ce sl pc Ls (.long y :: .long x :: st) :=
  Go.step (fun T hA hx hb t q => XT.lxor hA hx rfl (Jvm.hb hb hd) rfl q) r
theorem lor (pc : Nat) {x y : Int64} (hd : decode B.bs pc = .ok (.lor, 1))  (r : Go l Z a0 EL n0 kn B D Q h σ ce sl (pc + 1) Ls (.long (x ||| y) :: st))  : Go l Z a0 EL n0 kn B D Q h σ ce sl pc Ls (.long y :: .long x :: st) :=
  Go.step (fun T hA hx hb t q => XT.lor hA hx rfl (Jvm.hb hb hd) rfl q) r
theorem lushr (pc : Nat) {x : Int64} {y : Int32} (hd : decode B.bs pc = .ok (.lushr, 1))  (r : Go l Z a0 EL n0 kn B D Q h σ ce sl (pc + 1) Ls (.long (XT.ushrL x y) :: st))  : Go l Z a0 EL n0 kn B D Q h σ ce sl pc Ls (.int y :: .long x :: st) :=
  Go.step (fun T hA hx hb t q => XT.lushr hA hx rfl (Jvm.hb hb hd) rfl q) r
theorem ldiv (pc : Nat) {x y : Int64} (hd : decode B.bs pc = .ok (.ldiv, 1)) (hy : y ≠ 0) (r : Go l Z a0 EL n0 kn B D Q h σ ce sl (pc + 1) Ls (.long (x / y) :: st))  : Go l Z a0 EL n0 kn B D Q h σ ce sl pc Ls (.long y :: .long x :: st) :=
  Go.step (fun T hA hx hb t q => XT.ldiv hA hx rfl (Jvm.hb hb hd) rfl hy q) r
theorem lrem (pc : Nat) {x y : Int64} (hd : decode B.bs pc = .ok (.lrem, 1)) (hy : y ≠ 0) (r : Go l Z a0 EL n0 kn B D Q h σ ce sl (pc + 1) Ls (.long (x - (x / y) * y) :: st))  : Go l Z a0 EL n0 kn B D Q h σ ce sl pc Ls (.long y :: .long x :: st) :=
  Go.step (fun T hA hx hb t q => XT.lrem hA hx rfl (Jvm.hb hb hd) rfl hy q) r
theorem lneg (pc : Nat) {x : Int64} (hd : decode B.bs pc = .ok (.lneg, 1))  (r : Go l Z a0 EL n0 kn B D Q h σ ce sl (pc + 1) Ls (.long (-x) :: st))  : Go l Z a0 EL n0 kn B D Q h σ ce sl pc Ls (.long x :: st) :=
  Go.step (fun T hA hx hb t q => XT.lneg hA hx rfl (Jvm.hb hb hd) rfl q) r
theorem i2l (pc : Nat) {x : Int32} (hd : decode B.bs pc = .ok (.i2l, 1))  (r : Go l Z a0 EL n0 kn B D Q h σ ce sl (pc + 1) Ls (.long x.toInt64 :: st))  : Go l Z a0 EL n0 kn B D Q h σ ce sl pc Ls (.int x :: st) :=
  Go.step (fun T hA hx hb t q => XT.i2l hA hx rfl (Jvm.hb hb hd) rfl q) r
theorem l2i (pc : Nat) {x : Int64} (hd : decode B.bs pc = .ok (.l2i, 1))  (r : Go l Z a0 EL n0 kn B D Q h σ ce sl (pc + 1) Ls (.int x.toInt32 :: st))  : Go l Z a0 EL n0 kn B D Q h σ ce sl pc Ls (.long x :: st) :=
  Go.step (fun T hA hx hb t q => XT.l2i hA hx rfl (Jvm.hb hb hd) rfl q) r
theorem i2b (pc : Nat) {x : Int32} (hd : decode B.bs pc = .ok (.i2b, 1))  (r : Go l Z a0 EL n0 kn B D Q h σ ce sl (pc + 1) Ls (.int x.toInt8.toInt32 :: st))  : Go l Z a0 EL n0 kn B D Q h σ ce sl pc Ls (.int x :: st) :=
  Go.step (fun T hA hx hb t q => XT.i2b hA hx rfl (Jvm.hb hb hd) rfl q) r
theorem i2c (pc : Nat) {x : Int32} (hd : decode B.bs pc = .ok (.i2c, 1))  (r : Go l Z a0 EL n0 kn B D Q h σ ce sl (pc + 1) Ls (.int (chr x) :: st))  : Go l Z a0 EL n0 kn B D Q h σ ce sl pc Ls (.int x :: st) :=
  Go.step (fun T hA hx hb t q => XT.i2c hA hx rfl (Jvm.hb hb hd) rfl q) r
theorem lcmp (pc : Nat) {x y : Int64} (hd : decode B.bs pc = .ok (.lcmp, 1))  (r : Go l Z a0 EL n0 kn B D Q h σ ce sl (pc + 1) Ls (.int (XT.cmpL x y) :: st))  : Go l Z a0 EL n0 kn B D Q h σ ce sl pc Ls (.long y :: .long x :: st) :=
  Go.step (fun T hA hx hb t q => XT.lcmp hA hx rfl (Jvm.hb hb hd) rfl q) r
theorem dup (pc : Nat) {v : Value} (hd : decode B.bs pc = .ok (.dup, 1))  (r : Go l Z a0 EL n0 kn B D Q h σ ce sl (pc + 1) Ls (v :: v :: st)) (hc : v.category = 1 := by rfl) : Go l Z a0 EL n0 kn B D Q h σ ce sl pc Ls (v :: st) :=
  Go.step (fun T hA hx hb t q => XS.dup hA hx rfl (Jvm.hb hb hd) rfl hc q) r
theorem dupX1 (pc : Nat) {v w : Value} (hd : decode B.bs pc = .ok (.dup_x1, 1))   (r : Go l Z a0 EL n0 kn B D Q h σ ce sl (pc + 1) Ls (v :: w :: v :: st)) (hc : v.category = 1 := by rfl) (hw : w.category = 1 := by rfl) : Go l Z a0 EL n0 kn B D Q h σ ce sl pc Ls (v :: w :: st) :=
  Go.step (fun T hA hx hb t q => XT.dupX1 hA hx rfl (Jvm.hb hb hd) rfl hc hw q) r
theorem pop (pc : Nat) {v : Value} (hd : decode B.bs pc = .ok (.pop, 1))  (r : Go l Z a0 EL n0 kn B D Q h σ ce sl (pc + 1) Ls st) (hc : v.category = 1 := by rfl) : Go l Z a0 EL n0 kn B D Q h σ ce sl pc Ls (v :: st) :=
  Go.step (fun T hA hx hb t q => XT.pop hA hx rfl (Jvm.hb hb hd) rfl hc q) r
theorem istore (pc : Nat) {k : Nat} {x : Int32} (l' : Array Slot) (hd : decode B.bs pc = .ok (.istore k, 2)) (hl : storeLocals Ls k (.int x) = some l') (r : Go l Z a0 EL n0 kn B D Q h σ ce sl (pc + 2) l' st)  : Go l Z a0 EL n0 kn B D Q h σ ce sl pc Ls (.int x :: st) :=
  Go.step (fun T hA hx hb t q => XS.istore hA hx rfl (Jvm.hb hb hd) rfl hl q) r
theorem istoreN (pc : Nat) {k : Fin 4} {x : Int32} (l' : Array Slot) (hd : decode B.bs pc = .ok (.istore_n k, 1)) (hl : storeLocals Ls k.val (.int x) = some l') (r : Go l Z a0 EL n0 kn B D Q h σ ce sl (pc + 1) l' st)  : Go l Z a0 EL n0 kn B D Q h σ ce sl pc Ls (.int x :: st) :=
  Go.step (fun T hA hx hb t q => XS.istoreN hA hx rfl (Jvm.hb hb hd) rfl hl q) r
theorem lstore (pc : Nat) {k : Nat} {x : Int64} (l' : Array Slot) (hd : decode B.bs pc = .ok (.lstore k, 2)) (hl : storeLocals Ls k (.long x) = some l') (r : Go l Z a0 EL n0 kn B D Q h σ ce sl (pc + 2) l' st)  : Go l Z a0 EL n0 kn B D Q h σ ce sl pc Ls (.long x :: st) :=
  Go.step (fun T hA hx hb t q => XT.lstore hA hx rfl (Jvm.hb hb hd) rfl hl q) r
theorem lstoreN (pc : Nat) {k : Fin 4} {x : Int64} (l' : Array Slot) (hd : decode B.bs pc = .ok (.lstore_n k, 1)) (hl : storeLocals Ls k.val (.long x) = some l') (r : Go l Z a0 EL n0 kn B D Q h σ ce sl (pc + 1) l' st)  : Go l Z a0 EL n0 kn B D Q h σ ce sl pc Ls (.long x :: st) :=
  Go.step (fun T hA hx hb t q => XT.lstoreN hA hx rfl (Jvm.hb hb hd) rfl hl q) r
theorem astore (pc : Nat) {k : Nat} {v : Value} (l' : Array Slot) (hd : decode B.bs pc = .ok (.astore k, 2)) (hl : storeLocals Ls k v = some l')  (r : Go l Z a0 EL n0 kn B D Q h σ ce sl (pc + 2) l' st) (hv : v.isRef = true := by rfl) : Go l Z a0 EL n0 kn B D Q h σ ce sl pc Ls (v :: st) :=
  Go.step (fun T hA hx hb t q => XS.astore hA hx rfl (Jvm.hb hb hd) rfl hv hl q) r
theorem astoreN (pc : Nat) {k : Fin 4} {v : Value} (l' : Array Slot) (hd : decode B.bs pc = .ok (.astore_n k, 1)) (hl : storeLocals Ls k.val v = some l')  (r : Go l Z a0 EL n0 kn B D Q h σ ce sl (pc + 1) l' st) (hv : v.isRef = true := by rfl) : Go l Z a0 EL n0 kn B D Q h σ ce sl pc Ls (v :: st) :=
  Go.step (fun T hA hx hb t q => XS.astoreN hA hx rfl (Jvm.hb hb hd) rfl hv hl q) r
theorem iinc (pc : Nat) {k : Nat} {c : Int} {x : Int32} (v : Int32) (l' : Array Slot) (hd : decode B.bs pc = .ok (.iinc k c, 3)) (hv : Int32.ofInt c = v) (hl : Ls[k]? = some (.val (.int x))) (hl' : storeLocals Ls k (.int (x + v)) = some l') (r : Go l Z a0 EL n0 kn B D Q h σ ce sl (pc + 3) l' st)  : Go l Z a0 EL n0 kn B D Q h σ ce sl pc Ls st :=
  Go.step (fun T hA hx hb t q => XT.iincV hA hx rfl v (Jvm.hb hb hd) hv hl hl' q) r
theorem goto (pc : Nat) (tgt : Nat) {o : Int} (hd : decode B.bs pc = .ok (.goto o, 3)) (ht : (pc : Int) + o = (tgt : Int)) (r : Go l Z a0 EL n0 kn B D Q h σ ce sl tgt Ls st) : Go l Z a0 EL n0 kn B D Q h σ ce sl pc Ls st :=
  Go.step (fun T hA hx hb t q => XS.goto hA hx rfl (pc0 := pc) (pc' := tgt) rfl (Jvm.hb hb hd) (by rw [ht]; exact Int.natCast_nonneg _) (by rw [ht]; rfl) q) r
theorem icmp_eq (pc : Nat) (tgt : Nat) {o : Int} {x y : Int32} (hd : decode B.bs pc = .ok (.if_icmp .eq o, 3)) (ht : (pc : Int) + o = (tgt : Int)) (yes : x = y → Go l Z a0 EL n0 kn B D Q h σ ce sl tgt Ls st) (no : ¬ (x = y) → Go l Z a0 EL n0 kn B D Q h σ ce sl (pc + 3) Ls st) : Go l Z a0 EL n0 kn B D Q h σ ce sl pc Ls (.int y :: .int x :: st) := by
  by_cases c : x = y
  · exact Go.step (fun T hA hx hb t q => XS.icmpYes hA hx rfl (pc0 := pc) (pc' := tgt) rfl (Jvm.hb hb hd) rfl (XT.ii_eq_t c) (by rw [ht]; exact Int.natCast_nonneg _) (by rw [ht]; rfl) q) (yes c)
  · exact Go.step (fun T hA hx hb t q => XS.icmpNo hA hx rfl (Jvm.hb hb hd) rfl (XT.ii_eq_f c) q) (no c)
theorem icmp_ne (pc : Nat) (tgt : Nat) {o : Int} {x y : Int32} (hd : decode B.bs pc = .ok (.if_icmp .ne o, 3)) (ht : (pc : Int) + o = (tgt : Int)) (yes : ¬ (x = y) → Go l Z a0 EL n0 kn B D Q h σ ce sl tgt Ls st) (no : x = y → Go l Z a0 EL n0 kn B D Q h σ ce sl (pc + 3) Ls st) : Go l Z a0 EL n0 kn B D Q h σ ce sl pc Ls (.int y :: .int x :: st) := by
  by_cases c : x = y
  · exact Go.step (fun T hA hx hb t q => XS.icmpNo hA hx rfl (Jvm.hb hb hd) rfl (XT.ii_ne_f c) q) (no c)
  · exact Go.step (fun T hA hx hb t q => XS.icmpYes hA hx rfl (pc0 := pc) (pc' := tgt) rfl (Jvm.hb hb hd) rfl (XT.ii_ne_t c) (by rw [ht]; exact Int.natCast_nonneg _) (by rw [ht]; rfl) q) (yes c)
theorem icmp_lt (pc : Nat) (tgt : Nat) {o : Int} {x y : Int32} (hd : decode B.bs pc = .ok (.if_icmp .lt o, 3)) (ht : (pc : Int) + o = (tgt : Int)) (yes : x < y → Go l Z a0 EL n0 kn B D Q h σ ce sl tgt Ls st) (no : ¬ (x < y) → Go l Z a0 EL n0 kn B D Q h σ ce sl (pc + 3) Ls st) : Go l Z a0 EL n0 kn B D Q h σ ce sl pc Ls (.int y :: .int x :: st) := by
  by_cases c : x < y
  · exact Go.step (fun T hA hx hb t q => XS.icmpYes hA hx rfl (pc0 := pc) (pc' := tgt) rfl (Jvm.hb hb hd) rfl (XT.ii_lt_t c) (by rw [ht]; exact Int.natCast_nonneg _) (by rw [ht]; rfl) q) (yes c)
  · exact Go.step (fun T hA hx hb t q => XS.icmpNo hA hx rfl (Jvm.hb hb hd) rfl (XT.ii_lt_f c) q) (no c)
theorem icmp_ge (pc : Nat) (tgt : Nat) {o : Int} {x y : Int32} (hd : decode B.bs pc = .ok (.if_icmp .ge o, 3)) (ht : (pc : Int) + o = (tgt : Int)) (yes : ¬ (x < y) → Go l Z a0 EL n0 kn B D Q h σ ce sl tgt Ls st) (no : x < y → Go l Z a0 EL n0 kn B D Q h σ ce sl (pc + 3) Ls st) : Go l Z a0 EL n0 kn B D Q h σ ce sl pc Ls (.int y :: .int x :: st) := by
  by_cases c : x < y
  · exact Go.step (fun T hA hx hb t q => XS.icmpNo hA hx rfl (Jvm.hb hb hd) rfl (XT.ii_ge_f c) q) (no c)
  · exact Go.step (fun T hA hx hb t q => XS.icmpYes hA hx rfl (pc0 := pc) (pc' := tgt) rfl (Jvm.hb hb hd) rfl (XT.ii_ge_t c) (by rw [ht]; exact Int.natCast_nonneg _) (by rw [ht]; rfl) q) (yes c)
theorem icmp_gt (pc : Nat) (tgt : Nat) {o : Int} {x y : Int32} (hd : decode B.bs pc = .ok (.if_icmp .gt o, 3)) (ht : (pc : Int) + o = (tgt : Int)) (yes : y < x → Go l Z a0 EL n0 kn B D Q h σ ce sl tgt Ls st) (no : ¬ (y < x) → Go l Z a0 EL n0 kn B D Q h σ ce sl (pc + 3) Ls st) : Go l Z a0 EL n0 kn B D Q h σ ce sl pc Ls (.int y :: .int x :: st) := by
  by_cases c : y < x
  · exact Go.step (fun T hA hx hb t q => XS.icmpYes hA hx rfl (pc0 := pc) (pc' := tgt) rfl (Jvm.hb hb hd) rfl (XT.ii_gt_t c) (by rw [ht]; exact Int.natCast_nonneg _) (by rw [ht]; rfl) q) (yes c)
  · exact Go.step (fun T hA hx hb t q => XS.icmpNo hA hx rfl (Jvm.hb hb hd) rfl (XT.ii_gt_f c) q) (no c)
theorem icmp_le (pc : Nat) (tgt : Nat) {o : Int} {x y : Int32} (hd : decode B.bs pc = .ok (.if_icmp .le o, 3)) (ht : (pc : Int) + o = (tgt : Int)) (yes : ¬ (y < x) → Go l Z a0 EL n0 kn B D Q h σ ce sl tgt Ls st) (no : y < x → Go l Z a0 EL n0 kn B D Q h σ ce sl (pc + 3) Ls st) : Go l Z a0 EL n0 kn B D Q h σ ce sl pc Ls (.int y :: .int x :: st) := by
  by_cases c : y < x
  · exact Go.step (fun T hA hx hb t q => XS.icmpNo hA hx rfl (Jvm.hb hb hd) rfl (XT.ii_le_f c) q) (no c)
  · exact Go.step (fun T hA hx hb t q => XS.icmpYes hA hx rfl (pc0 := pc) (pc' := tgt) rfl (Jvm.hb hb hd) rfl (XT.ii_le_t c) (by rw [ht]; exact Int.natCast_nonneg _) (by rw [ht]; rfl) q) (yes c)
theorem if_eq (pc : Nat) (tgt : Nat) {o : Int} {x : Int32} (hd : decode B.bs pc = .ok (.ifCond .eq o, 3)) (ht : (pc : Int) + o = (tgt : Int)) (yes : x = 0 → Go l Z a0 EL n0 kn B D Q h σ ce sl tgt Ls st) (no : ¬ (x = 0) → Go l Z a0 EL n0 kn B D Q h σ ce sl (pc + 3) Ls st) : Go l Z a0 EL n0 kn B D Q h σ ce sl pc Ls (.int x :: st) := by
  by_cases c : x = 0
  · exact Go.step (fun T hA hx hb t q => XS.ifYes hA hx rfl (pc0 := pc) (pc' := tgt) rfl (Jvm.hb hb hd) rfl (XT.i0_eq_t c) (by rw [ht]; exact Int.natCast_nonneg _) (by rw [ht]; rfl) q) (yes c)
  · exact Go.step (fun T hA hx hb t q => XS.ifNo hA hx rfl (Jvm.hb hb hd) rfl (XT.i0_eq_f c) q) (no c)
theorem if_ne (pc : Nat) (tgt : Nat) {o : Int} {x : Int32} (hd : decode B.bs pc = .ok (.ifCond .ne o, 3)) (ht : (pc : Int) + o = (tgt : Int)) (yes : ¬ (x = 0) → Go l Z a0 EL n0 kn B D Q h σ ce sl tgt Ls st) (no : x = 0 → Go l Z a0 EL n0 kn B D Q h σ ce sl (pc + 3) Ls st) : Go l Z a0 EL n0 kn B D Q h σ ce sl pc Ls (.int x :: st) := by
  by_cases c : x = 0
  · exact Go.step (fun T hA hx hb t q => XS.ifNo hA hx rfl (Jvm.hb hb hd) rfl (XT.i0_ne_f c) q) (no c)
  · exact Go.step (fun T hA hx hb t q => XS.ifYes hA hx rfl (pc0 := pc) (pc' := tgt) rfl (Jvm.hb hb hd) rfl (XT.i0_ne_t c) (by rw [ht]; exact Int.natCast_nonneg _) (by rw [ht]; rfl) q) (yes c)
theorem if_lt (pc : Nat) (tgt : Nat) {o : Int} {x : Int32} (hd : decode B.bs pc = .ok (.ifCond .lt o, 3)) (ht : (pc : Int) + o = (tgt : Int)) (yes : x < 0 → Go l Z a0 EL n0 kn B D Q h σ ce sl tgt Ls st) (no : ¬ (x < 0) → Go l Z a0 EL n0 kn B D Q h σ ce sl (pc + 3) Ls st) : Go l Z a0 EL n0 kn B D Q h σ ce sl pc Ls (.int x :: st) := by
  by_cases c : x < 0
  · exact Go.step (fun T hA hx hb t q => XS.ifYes hA hx rfl (pc0 := pc) (pc' := tgt) rfl (Jvm.hb hb hd) rfl (XT.i0_lt_t c) (by rw [ht]; exact Int.natCast_nonneg _) (by rw [ht]; rfl) q) (yes c)
  · exact Go.step (fun T hA hx hb t q => XS.ifNo hA hx rfl (Jvm.hb hb hd) rfl (XT.i0_lt_f c) q) (no c)
theorem if_ge (pc : Nat) (tgt : Nat) {o : Int} {x : Int32} (hd : decode B.bs pc = .ok (.ifCond .ge o, 3)) (ht : (pc : Int) + o = (tgt : Int)) (yes : ¬ (x < 0) → Go l Z a0 EL n0 kn B D Q h σ ce sl tgt Ls st) (no : x < 0 → Go l Z a0 EL n0 kn B D Q h σ ce sl (pc + 3) Ls st) : Go l Z a0 EL n0 kn B D Q h σ ce sl pc Ls (.int x :: st) := by
  by_cases c : x < 0
  · exact Go.step (fun T hA hx hb t q => XS.ifNo hA hx rfl (Jvm.hb hb hd) rfl (XT.i0_ge_f c) q) (no c)
  · exact Go.step (fun T hA hx hb t q => XS.ifYes hA hx rfl (pc0 := pc) (pc' := tgt) rfl (Jvm.hb hb hd) rfl (XT.i0_ge_t c) (by rw [ht]; exact Int.natCast_nonneg _) (by rw [ht]; rfl) q) (yes c)
theorem if_gt (pc : Nat) (tgt : Nat) {o : Int} {x : Int32} (hd : decode B.bs pc = .ok (.ifCond .gt o, 3)) (ht : (pc : Int) + o = (tgt : Int)) (yes : 0 < x → Go l Z a0 EL n0 kn B D Q h σ ce sl tgt Ls st) (no : ¬ (0 < x) → Go l Z a0 EL n0 kn B D Q h σ ce sl (pc + 3) Ls st) : Go l Z a0 EL n0 kn B D Q h σ ce sl pc Ls (.int x :: st) := by
  by_cases c : 0 < x
  · exact Go.step (fun T hA hx hb t q => XS.ifYes hA hx rfl (pc0 := pc) (pc' := tgt) rfl (Jvm.hb hb hd) rfl (XT.i0_gt_t c) (by rw [ht]; exact Int.natCast_nonneg _) (by rw [ht]; rfl) q) (yes c)
  · exact Go.step (fun T hA hx hb t q => XS.ifNo hA hx rfl (Jvm.hb hb hd) rfl (XT.i0_gt_f c) q) (no c)
theorem if_le (pc : Nat) (tgt : Nat) {o : Int} {x : Int32} (hd : decode B.bs pc = .ok (.ifCond .le o, 3)) (ht : (pc : Int) + o = (tgt : Int)) (yes : ¬ (0 < x) → Go l Z a0 EL n0 kn B D Q h σ ce sl tgt Ls st) (no : 0 < x → Go l Z a0 EL n0 kn B D Q h σ ce sl (pc + 3) Ls st) : Go l Z a0 EL n0 kn B D Q h σ ce sl pc Ls (.int x :: st) := by
  by_cases c : 0 < x
  · exact Go.step (fun T hA hx hb t q => XS.ifNo hA hx rfl (Jvm.hb hb hd) rfl (XT.i0_le_f c) q) (no c)
  · exact Go.step (fun T hA hx hb t q => XS.ifYes hA hx rfl (pc0 := pc) (pc' := tgt) rfl (Jvm.hb hb hd) rfl (XT.i0_le_t c) (by rw [ht]; exact Int.natCast_nonneg _) (by rw [ht]; rfl) q) (yes c)
theorem ifl_eq (pc : Nat) (tgt : Nat) {o : Int} {x y : Int64} (hd : decode B.bs pc = .ok (.ifCond .eq o, 3)) (ht : (pc : Int) + o = (tgt : Int)) (yes : x = y → Go l Z a0 EL n0 kn B D Q h σ ce sl tgt Ls st) (no : ¬ (x = y) → Go l Z a0 EL n0 kn B D Q h σ ce sl (pc + 3) Ls st) : Go l Z a0 EL n0 kn B D Q h σ ce sl pc Ls (.int (XT.cmpL x y) :: st) := by
  by_cases c : x = y
  · exact Go.step (fun T hA hx hb t q => XS.ifYes hA hx rfl (pc0 := pc) (pc' := tgt) rfl (Jvm.hb hb hd) rfl (XT.ll_eq_t c) (by rw [ht]; exact Int.natCast_nonneg _) (by rw [ht]; rfl) q) (yes c)
  · exact Go.step (fun T hA hx hb t q => XS.ifNo hA hx rfl (Jvm.hb hb hd) rfl (XT.ll_eq_f c) q) (no c)
theorem ifl_ne (pc : Nat) (tgt : Nat) {o : Int} {x y : Int64} (hd : decode B.bs pc = .ok (.ifCond .ne o, 3)) (ht : (pc : Int) + o = (tgt : Int)) (yes : ¬ (x = y) → Go l Z a0 EL n0 kn B D Q h σ ce sl tgt Ls st) (no : x = y → Go l Z a0 EL n0 kn B D Q h σ ce sl (pc + 3) Ls st) : Go l Z a0 EL n0 kn B D Q h σ ce sl pc Ls (.int (XT.cmpL x y) :: st) := by
  by_cases c : x = y
  · exact Go.step (fun T hA hx hb t q => XS.ifNo hA hx rfl (Jvm.hb hb hd) rfl (XT.ll_ne_f c) q) (no c)
  · exact Go.step (fun T hA hx hb t q => XS.ifYes hA hx rfl (pc0 := pc) (pc' := tgt) rfl (Jvm.hb hb hd) rfl (XT.ll_ne_t c) (by rw [ht]; exact Int.natCast_nonneg _) (by rw [ht]; rfl) q) (yes c)
theorem ifl_lt (pc : Nat) (tgt : Nat) {o : Int} {x y : Int64} (hd : decode B.bs pc = .ok (.ifCond .lt o, 3)) (ht : (pc : Int) + o = (tgt : Int)) (yes : x < y → Go l Z a0 EL n0 kn B D Q h σ ce sl tgt Ls st) (no : ¬ (x < y) → Go l Z a0 EL n0 kn B D Q h σ ce sl (pc + 3) Ls st) : Go l Z a0 EL n0 kn B D Q h σ ce sl pc Ls (.int (XT.cmpL x y) :: st) := by
  by_cases c : x < y
  · exact Go.step (fun T hA hx hb t q => XS.ifYes hA hx rfl (pc0 := pc) (pc' := tgt) rfl (Jvm.hb hb hd) rfl (XT.ll_lt_t c) (by rw [ht]; exact Int.natCast_nonneg _) (by rw [ht]; rfl) q) (yes c)
  · exact Go.step (fun T hA hx hb t q => XS.ifNo hA hx rfl (Jvm.hb hb hd) rfl (XT.ll_lt_f c) q) (no c)
theorem ifl_ge (pc : Nat) (tgt : Nat) {o : Int} {x y : Int64} (hd : decode B.bs pc = .ok (.ifCond .ge o, 3)) (ht : (pc : Int) + o = (tgt : Int)) (yes : ¬ (x < y) → Go l Z a0 EL n0 kn B D Q h σ ce sl tgt Ls st) (no : x < y → Go l Z a0 EL n0 kn B D Q h σ ce sl (pc + 3) Ls st) : Go l Z a0 EL n0 kn B D Q h σ ce sl pc Ls (.int (XT.cmpL x y) :: st) := by
  by_cases c : x < y
  · exact Go.step (fun T hA hx hb t q => XS.ifNo hA hx rfl (Jvm.hb hb hd) rfl (XT.ll_ge_f c) q) (no c)
  · exact Go.step (fun T hA hx hb t q => XS.ifYes hA hx rfl (pc0 := pc) (pc' := tgt) rfl (Jvm.hb hb hd) rfl (XT.ll_ge_t c) (by rw [ht]; exact Int.natCast_nonneg _) (by rw [ht]; rfl) q) (yes c)
theorem ifl_gt (pc : Nat) (tgt : Nat) {o : Int} {x y : Int64} (hd : decode B.bs pc = .ok (.ifCond .gt o, 3)) (ht : (pc : Int) + o = (tgt : Int)) (yes : y < x → Go l Z a0 EL n0 kn B D Q h σ ce sl tgt Ls st) (no : ¬ (y < x) → Go l Z a0 EL n0 kn B D Q h σ ce sl (pc + 3) Ls st) : Go l Z a0 EL n0 kn B D Q h σ ce sl pc Ls (.int (XT.cmpL x y) :: st) := by
  by_cases c : y < x
  · exact Go.step (fun T hA hx hb t q => XS.ifYes hA hx rfl (pc0 := pc) (pc' := tgt) rfl (Jvm.hb hb hd) rfl (XT.ll_gt_t c) (by rw [ht]; exact Int.natCast_nonneg _) (by rw [ht]; rfl) q) (yes c)
  · exact Go.step (fun T hA hx hb t q => XS.ifNo hA hx rfl (Jvm.hb hb hd) rfl (XT.ll_gt_f c) q) (no c)
theorem ifl_le (pc : Nat) (tgt : Nat) {o : Int} {x y : Int64} (hd : decode B.bs pc = .ok (.ifCond .le o, 3)) (ht : (pc : Int) + o = (tgt : Int)) (yes : ¬ (y < x) → Go l Z a0 EL n0 kn B D Q h σ ce sl tgt Ls st) (no : y < x → Go l Z a0 EL n0 kn B D Q h σ ce sl (pc + 3) Ls st) : Go l Z a0 EL n0 kn B D Q h σ ce sl pc Ls (.int (XT.cmpL x y) :: st) := by
  by_cases c : y < x
  · exact Go.step (fun T hA hx hb t q => XS.ifNo hA hx rfl (Jvm.hb hb hd) rfl (XT.ll_le_f c) q) (no c)
  · exact Go.step (fun T hA hx hb t q => XS.ifYes hA hx rfl (pc0 := pc) (pc' := tgt) rfl (Jvm.hb hb hd) rfl (XT.ll_le_t c) (by rw [ht]; exact Int.natCast_nonneg _) (by rw [ht]; rfl) q) (yes c)
theorem ifnull (pc : Nat) (tgt : Nat) {o : Int} {v : Value} (hr : v.isRef = true) (hd : decode B.bs pc = .ok (.ifnull o, 3)) (ht : (pc : Int) + o = (tgt : Int)) (yes : v = .null → Go l Z a0 EL n0 kn B D Q h σ ce sl tgt Ls st) (no : ¬ (v = .null) → Go l Z a0 EL n0 kn B D Q h σ ce sl (pc + 3) Ls st) : Go l Z a0 EL n0 kn B D Q h σ ce sl pc Ls (v :: st) := by
  by_cases c : v = .null
  · exact Go.step (fun T hA hx hb t q => XT.nullYes hA hx rfl (pc0 := pc) (pc' := tgt) rfl (Jvm.hb hb hd) rfl c (by rw [ht]; exact Int.natCast_nonneg _) (by rw [ht]; rfl) q) (yes c)
  · exact Go.step (fun T hA hx hb t q => XT.nullNo hA hx rfl (Jvm.hb hb hd) rfl hr c q) (no c)
theorem ifnonnull (pc : Nat) (tgt : Nat) {o : Int} {v : Value} (hr : v.isRef = true) (hd : decode B.bs pc = .ok (.ifnonnull o, 3)) (ht : (pc : Int) + o = (tgt : Int)) (yes : ¬ (v = .null) → Go l Z a0 EL n0 kn B D Q h σ ce sl tgt Ls st) (no : v = .null → Go l Z a0 EL n0 kn B D Q h σ ce sl (pc + 3) Ls st) : Go l Z a0 EL n0 kn B D Q h σ ce sl pc Ls (v :: st) := by
  by_cases c : v = .null
  · exact Go.step (fun T hA hx hb t q => XT.nonnullNo hA hx rfl (Jvm.hb hb hd) rfl c q) (no c)
  · exact Go.step (fun T hA hx hb t q => XT.nonnullYes hA hx rfl (pc0 := pc) (pc' := tgt) rfl (Jvm.hb hb hd) rfl hr c (by rw [ht]; exact Int.natCast_nonneg _) (by rw [ht]; rfl) q) (yes c)
theorem acmp_eq (pc : Nat) (tgt : Nat) {o : Int} {v w : Value} (hv : v.isRef = true) (hw : w.isRef = true) (hd : decode B.bs pc = .ok (.if_acmp .eq o, 3)) (ht : (pc : Int) + o = (tgt : Int)) (yes : v = w → Go l Z a0 EL n0 kn B D Q h σ ce sl tgt Ls st) (no : ¬ (v = w) → Go l Z a0 EL n0 kn B D Q h σ ce sl (pc + 3) Ls st) : Go l Z a0 EL n0 kn B D Q h σ ce sl pc Ls (w :: v :: st) := by
  by_cases c : v = w
  · exact Go.step (fun T hA hx hb t q => XT.acmpYes hA hx rfl (pc0 := pc) (pc' := tgt) rfl (Jvm.hb hb hd) rfl hv hw (XT.aa_eq_t c) (by rw [ht]; exact Int.natCast_nonneg _) (by rw [ht]; rfl) q) (yes c)
  · exact Go.step (fun T hA hx hb t q => XT.acmpNo hA hx rfl (Jvm.hb hb hd) rfl hv hw (XT.aa_eq_f c) q) (no c)
theorem acmp_ne (pc : Nat) (tgt : Nat) {o : Int} {v w : Value} (hv : v.isRef = true) (hw : w.isRef = true) (hd : decode B.bs pc = .ok (.if_acmp .ne o, 3)) (ht : (pc : Int) + o = (tgt : Int)) (yes : ¬ (v = w) → Go l Z a0 EL n0 kn B D Q h σ ce sl tgt Ls st) (no : v = w → Go l Z a0 EL n0 kn B D Q h σ ce sl (pc + 3) Ls st) : Go l Z a0 EL n0 kn B D Q h σ ce sl pc Ls (w :: v :: st) := by
  by_cases c : v = w
  · exact Go.step (fun T hA hx hb t q => XT.acmpNo hA hx rfl (Jvm.hb hb hd) rfl hv hw (XT.aa_ne_f c) q) (no c)
  · exact Go.step (fun T hA hx hb t q => XT.acmpYes hA hx rfl (pc0 := pc) (pc' := tgt) rfl (Jvm.hb hb hd) rfl hv hw (XT.aa_ne_t c) (by rw [ht]; exact Int.natCast_nonneg _) (by rw [ht]; rfl) q) (yes c)
end Plain
end Jvm.Road
namespace Jvm.Road
open Jvm Jvm.ClassFile Sem Op Lib Jvm.Free Jvm.Stand Jvm.LawKit Jvm.RoadKit Bundle
section Facts
variable {Z : State} {h h' : Heap} {a b : Addr} {ty : FieldType} {vs : List Value} {ws : List Addr}
/-- the array at a holds just these values -/
def Ary (Z : State) (h : Heap) (a : Addr) (ty : FieldType) (vs : List Value) : Prop := ∃ c : Cell, Arr Z h a c ty ∧ c.slots.toList = vs ∧ vs.length < 2147483648 ∧ ∀ v ∈ vs, fits ty v = true
theorem Ary.keep (F : Ary Z h a ty vs) (K : Keep h h' ws) (q : a ∉ ws) : Ary Z h' a ty vs := by
  obtain ⟨c, A, r⟩ := F; exact ⟨c, ⟨K.2.1 a c A.1 q, A.2⟩, r⟩
theorem Ary.lt (F : Ary Z h a ty vs) : a < h.size := by obtain ⟨c, A, -⟩ := F; exact A.lt
theorem Ary.small (F : Ary Z h a ty vs) : vs.length < 2147483648 := by obtain ⟨c, A, -, q, -⟩ := F; exact q
theorem Ary.fit (F : Ary Z h a ty vs) : ∀ v ∈ vs, fits ty v = true := by obtain ⟨c, A, -, -, q⟩ := F; exact q
theorem Ary.wr {i : Nat} {v : Value} (F : Ary Z h a ty vs) (W : Wr h h' a i v) (hv : fits ty v = true) : Ary Z h' a ty (vs.set i v) := by
  obtain ⟨c, A, e, q, f⟩ := F
  refine ⟨_, Arr.same W A, ?_, by rw [List.length_set]; exact q, fun u hu => ?_⟩
  · show (c.slots.setIfInBounds i v).toList = _
    rw [Array.toList_setIfInBounds, e]
  · rcases List.mem_or_eq_of_mem_set hu with r | r
    · exact f u r
    · exact r ▸ hv
theorem ix_of {j : Int32} {i : Nat} (hj : j.toInt = (i : Int)) : ¬ j < 0 ∧ j.toNatClampNeg = i := by
  refine ⟨?_, ?_⟩
  · simp only [Int32.lt_iff_toInt_lt, hj, Int32.reduceToInt]; omega
  · simp only [Int32.toNatClampNeg, hj]; omega
theorem Ary.inb {c : Cell} {j : Int32} {i : Nat} (e : c.slots.toList = vs) (hj : j.toInt = (i : Int)) (hi : i < vs.length) : ¬ (j < 0 ∨ c.slots.size ≤ j.toNatClampNeg) := by
  obtain ⟨q1, q2⟩ := ix_of hj
  rw [q2, ← Array.length_toList, e]
  intro q; rcases q with q | q
  · exact q1 q
  · omega
theorem Ary.of_arv {k : ClassId} {z : Int32} {d : Value} (F : Arv Z h a k ty z vs d) (hz : z.toNatClampNeg = vs.length) : Ary Z h a ty vs := by
  obtain ⟨c, A, -, S, hn, H, G⟩ := F
  have hsz : c.slots.size = vs.length := S.trans hz
  have e : c.slots.toList = vs := by
    apply List.ext_getElem?
    intro i
    by_cases hi : i < vs.length
    · have := H i (by rw [hsz]; exact hi)
      rw [Array.getElem?_toList, this, List.getD_eq_getElem?_getD, List.getElem?_eq_getElem hi]; rfl
    · rw [List.getElem?_eq_none (Nat.le_of_not_lt hi), List.getElem?_eq_none (by rw [Array.length_toList, hsz]; exact Nat.le_of_not_lt hi)]
  refine ⟨c, A, e, by have := Int32.toInt_lt z; simp only [Int32.toNatClampNeg] at hz; omega, fun v hv => ?_⟩
  obtain ⟨i, hi, rfl⟩ := List.getElem_of_mem hv
  have := G i (by rw [hsz]; exact hi)
  rwa [List.getD_eq_getElem?_getD, List.getElem?_eq_getElem hi] at this
def byt (c : Int32) : Value := .int c.toInt8.toInt32
abbrev SN : String := "java/lang/String"
/-- the object at a is a compact String of these chars, its bytes at b -/
def Str (Z : State) (h : Heap) (a b : Addr) (cs : List Int32) : Prop := Exa Z h a SN ∧ Fld Z h a SN "coder" "B" (.int 0) ∧ Fld Z h a SN "value" "[B" (.ref b) ∧ Ary Z h b .byte (cs.map byt) ∧ ∀ c ∈ cs, 0 ≤ c.toInt ∧ c.toInt < 256
theorem Str.keep {cs : List Int32} (F : Str Z h a b cs) (K : Keep h h' ws) (q : a ∉ ws) (q' : b ∉ ws) : Str Z h' a b cs := ⟨F.1.keep K, F.2.1.keep K q, F.2.2.1.keep K q, F.2.2.2.1.keep K q', F.2.2.2.2⟩
theorem Str.lt {cs : List Int32} (F : Str Z h a b cs) : a < h.size := F.1.lt
theorem Str.ltb {cs : List Int32} (F : Str Z h a b cs) : b < h.size := F.2.2.2.1.lt
theorem keep_ext (E : Ext h h') : Keep h h' [] := (Keep.refl h []).ext E
end Facts
section Heap
variable {l : Launch} {Z : State} {a0 : Array Value} {EL : List (String × Nat)} {n0 : Nat} {kn : Bool} {B : Bdy} {D : Dyn} {Q : Post} {h : Heap} {σ : Addr → Prop} {ce sl : Nat} {Ls : Array Slot} {st : List Value} {a : Addr}
theorem getfield (pc : Nat) {ix : Nat} {R0 O n d : String} {v : Value} (hd : decode B.bs pc = .ok (.getfield ix, 3)) (w : (Jvm.Cond.fieldLink B.y.cls ix R0 n d).before a0 Z = true) (via : Via Z R0 O n d) (F : Fld Z h a O n d v)
    (r : Go l Z a0 EL n0 kn B D Q h σ ce sl (pc + 3) Ls (v :: st)) : Go l Z a0 EL n0 kn B D Q h σ ce sl pc Ls (.ref a :: st) := by
  intro ok ew T vm0 I
  obtain ⟨k0, locs, X, h1, h2, h3, h4, h5, h6, h7, h8, h9, h10⟩ := I
  obtain ⟨T', X', e', s'⟩ := getF X ok.1 (s := D.s.setVm vm0) h4 h5 (host := "") (Or.inl w) via h1 F (g := mkF D.m pc Ls (.ref a :: st)) rfl rfl (Jvm.hb ok.2.1 hd)
  obtain ⟨s2, o, q, rest⟩ := r ok ew T' vm0 ⟨k0, locs, X', e', h2, h3, h4, h5, h6, h7, h8, h9, h10⟩
  exact ⟨s2, o, s' _ q, rest⟩
theorem own_wr {vm0 : Vm} {h' : Heap} {i : Nat} {v : Value} (W : Wr h h' a i v) (hC : CHv Z EL vm0 h) (ha : Own Z EL n0 vm0 h a) {x : Addr} (hx : Own Z EL n0 vm0 h x) : Own Z EL n0 vm0 h' x :=
  ⟨Safe.wr W ha.1 hC hx.1, hx.2.1, by rw [W.size]; exact hx.2.2⟩
/-- behind a write of one place -/
theorem wrote {pc pc' : Nat} {Ls' : Array Slot} {st' : List Value} {i : Nat} {v : Value} (hσ : σ a)
    (s : ∀ T vm0 locs, Stand D.p l D.e B.rm (D.s.setVm vm0) D.m D.args D.bl D.meth D.c T locs ce sl → T.heap = h → Z.Warmed39 vm0 → vm0.findClass B.y.cls = some D.m.cls → Ok B D →
      ∃ T' h', Stand D.p l D.e B.rm (D.s.setVm vm0) D.m D.args D.bl D.meth D.c T' (locs ++ [⟨a, i⟩]) ce sl ∧ T'.heap = h' ∧ Wr h h' a i v ∧ ∀ target, Steps D.p.tables D.e D.bl (T'.setTop (mkF D.m pc' Ls' st')) target → Steps D.p.tables D.e D.bl (T.setTop (mkF D.m pc Ls st)) target)
    (r : ∀ h', Wr h h' a i v → Keep h h' [a] → Go l Z a0 EL n0 kn B D Q h' σ ce sl pc' Ls' st') : Go l Z a0 EL n0 kn B D Q h σ ce sl pc Ls st := by
  intro ok ew T vm0 I
  obtain ⟨k0, locs, X, h1, h2, h3, h4, h5, h6, h7, h8, h9, h10⟩ := I
  obtain ⟨T', h', X', e', W, s'⟩ := s T vm0 locs X h1 h4 h5 ok
  have ha := h9 a hσ
  obtain ⟨s2, o, q, rest⟩ := r h' W (Keep.of_wr W) ok ew T' vm0 ⟨k0, _, X', e', h2, by rw [W.size]; exact h3, h4, h5, h6.trans (CHr.wr W ha.1 h6.1), h7.app fun y hy => by cases List.mem_singleton.mp hy; exact ha.2.1, h8.wr W ha.2.1, fun x hx => own_wr W h6.1 ha (h9 x hx), h10⟩
  exact ⟨s2, o, s' _ q, rest⟩
theorem putfield (pc : Nat) {ix : Nat} {R0 O n d C : String} {kk : Nat} {ty : FieldType} {v old : Value} (hd : decode B.bs pc = .ok (.putfield ix, 3)) (w : (Jvm.Cond.fieldLink B.y.cls ix R0 n d).before a0 Z = true) (via : Via Z R0 O n d) (F : Fld Z h a O n d old) (E : Exa Z h a C)
    (L : (Jvm.Cond.lays C O n d).before a0 Z = true ∨ ((Jvm.Cond.laysFinal C O n d).before a0 Z = true ∧ B.y.cls = O ∧ B.y.name = "<init>")) (wi : (Jvm.Cond.instantiable C kk).before a0 Z = true) (hty : parseFieldDescriptor d = some ty) (hn : narrow ty v = v) (hf : fits ty v = true) (hσ : σ a)
    (r : ∀ h', Wr h h' a (RoadKit.slotOf Z O n d) v → Keep h h' [a] → Go l Z a0 EL n0 kn B D Q h' σ ce sl (pc + 3) Ls st) : Go l Z a0 EL n0 kn B D Q h σ ce sl pc Ls (v :: .ref a :: st) :=
  wrote hσ (fun T vm0 locs X h1 h4 h5 ok => putF X ok.1 (s := D.s.setVm vm0) h4 h5 (host := "") (Or.inl w) via h1 F E (L.imp id fun q => ⟨q.1, q.2.1, ok.2.2.2.2.2.trans q.2.2⟩) wi hty hn hf (g := mkF D.m pc Ls (v :: .ref a :: st)) rfl rfl (Jvm.hb ok.2.1 hd)) r
theorem getstatic (pc : Nat) {ix : Nat} {R0 O n d : String} {v : Value} (hd : decode B.bs pc = .ok (.getstatic ix, 3)) (w : (Jvm.Cond.fieldLink B.y.cls ix R0 n d).before a0 Z = true) (via : Via Z R0 O n d) (F : Sta Z Z.heap O n d v)
    (r : Go l Z a0 EL n0 kn B D Q h σ ce sl (pc + 3) Ls (v :: st)) : Go l Z a0 EL n0 kn B D Q h σ ce sl pc Ls st := by
  intro ok ew T vm0 I
  obtain ⟨k0, locs, X, h1, h2, h3, h4, h5, h6, h7, h8, h9, h10⟩ := I
  obtain ⟨T', X', e', s'⟩ := getS X ok.1 (s := D.s.setVm vm0) h4 h5 (host := "") w via h1 (F.ext h8.2) (g := mkF D.m pc Ls st) rfl (Jvm.hb ok.2.1 hd)
  obtain ⟨s2, o, q, rest⟩ := r ok ew T' vm0 ⟨k0, locs, X', e', h2, h3, h4, h5, h6, h7, h8, h9, h10⟩
  exact ⟨s2, o, s' _ q, rest⟩
theorem own_new {vm0 : Vm} {h' : Heap} (E : Ext h h') (hC : CHv Z EL vm0 h) (hO : Old Z n0 h) (hlt : h.size < h'.size) : Own Z EL n0 vm0 h' h.size :=
  ⟨(Safe.new (Nat.le_refl _)).ext E hC, hO.1 ▸ hO.2.1, hlt⟩
/-- behind the making of one cell -/
theorem made {pc pc' ce' sl' : Nat} {Ls' : Array Slot} {st' : List Value} {P : Heap → Prop}
    (s : ∀ T vm0 locs, Stand D.p l D.e B.rm (D.s.setVm vm0) D.m D.args D.bl D.meth D.c T locs ce sl → T.heap = h → Z.Warmed39 vm0 → vm0.findClass B.y.cls = some D.m.cls → Ok B D →
      ∃ T' h', Stand D.p l D.e B.rm (D.s.setVm vm0) D.m D.args D.bl D.meth D.c T' locs ce' sl' ∧ T'.heap = h' ∧ Ext h h' ∧ h.size < h'.size ∧ P h' ∧ ∀ target, Steps D.p.tables D.e D.bl (T'.setTop (mkF D.m pc' Ls' st')) target → Steps D.p.tables D.e D.bl (T.setTop (mkF D.m pc Ls st)) target)
    (r : ∀ h' σ', Keep h h' [] → h.size < h'.size → (∀ x, σ x → σ' x) → σ' h.size → P h' → Go l Z a0 EL n0 kn B D Q h' σ' ce' sl' pc' Ls' st') : Go l Z a0 EL n0 kn B D Q h σ ce sl pc Ls st := by
  intro ok ew T vm0 I
  obtain ⟨k0, locs, X, h1, h2, h3, h4, h5, h6, h7, h8, h9, h10⟩ := I
  obtain ⟨T', h', X', e', E, hlt, hP, s'⟩ := s T vm0 locs X h1 h4 h5 ok
  obtain ⟨s2, o, q, rest⟩ := r h' (Own Z EL n0 vm0 h') (keep_ext E) hlt (fun x hx => ⟨(h9 x hx).1.ext E h6.1, (h9 x hx).2.1, Nat.lt_of_lt_of_le (h9 x hx).2.2 E.1⟩) (own_new E h6.1 h8 hlt) hP ok ew T' vm0
    ⟨k0, locs, X', e', h2, Nat.le_trans h3 E.1, h4, h5, h6.trans (CHr.ext E h6.1), h7, h8.ext E, fun x hx => hx, h10⟩
  exact ⟨s2, o, s' _ q, rest⟩
theorem new (pc : Nat) {ix : Nat} (C : String) {n : Nat} (hd : decode B.bs pc = .ok (.new ix, 3)) (w : (Jvm.Cond.classLink B.y.cls ix C).before a0 Z = true) (wi : (Jvm.Cond.instantiable C n).before a0 Z = true) (wz : (Jvm.Cond.initialized C).before a0 Z = true) {ce' sl' : Nat} (hce : ce + 1 = ce') (hsl : sl + n = sl') (hc : ce' ≤ B.rm.cells) (hs : sl' ≤ B.rm.slots)
    (r : ∀ a h' σ', a = h.size → Keep h h' [] → a < h'.size → (∀ x, σ x → σ' x) → σ' a → Exa Z h' a C → (∀ {O nm d : String} {ty : FieldType}, Laid Z a0 C O nm d → parseFieldDescriptor d = some ty → Fld Z h' a O nm d (defaultValue ty)) → (∃ cell : Cell, h'[a]? = some cell ∧ cell.vm = .none ∧ cell.monitor = {}) →
      Go l Z a0 EL n0 kn B D Q h' σ' ce' sl' (pc + 3) Ls (.ref a :: st)) : Go l Z a0 EL n0 kn B D Q h σ ce sl pc Ls st := by
  subst hce hsl
  exact made (P := fun h' => Exa Z h' h.size C ∧ (∀ {O nm d : String} {ty : FieldType}, Laid Z a0 C O nm d → parseFieldDescriptor d = some ty → Fld Z h' h.size O nm d (defaultValue ty)) ∧ (∃ cell : Cell, h'[h.size]? = some cell ∧ cell.vm = .none ∧ cell.monitor = {}))
    (fun T vm0 locs X h1 h4 h5 ok => by
      obtain ⟨T', h', X', e', E, A, Dd, M, s'⟩ := newO X ok.1 (s := D.s.setVm vm0) h4 h5 w wi wz h1 (g := mkF D.m pc Ls st) rfl (Jvm.hb ok.2.1 hd) hc hs
      exact ⟨T', h', X', e', E, A.lt, ⟨A, Dd, M⟩, s'⟩)
    (fun h' σ' K hlt m1 m2 P => r h.size h' σ' rfl K hlt m1 m2 P.1 P.2.1 P.2.2)
theorem newarray (pc : Nat) {aty : ArrayType} (ty : FieldType) (n cap : Nat) {z : Int32} (hd : decode B.bs pc = .ok (.newarray aty, 2)) (hty : newarray.typeOf aty = ty) (w : (Jvm.Cond.arrayClass ty).before a0 Z = true) (hz : z.toInt = (n : Int)) (hcap : n ≤ cap) (hb : cap * 8 ≤ 536870912) {ce' sl' : Nat} (hce : ce + 1 = ce') (hsl : sl + cap = sl') (hc : ce' ≤ B.rm.cells) (hs : sl' ≤ B.rm.slots)
    (r : ∀ a h' σ', a = h.size → Keep h h' [] → a < h'.size → (∀ x, σ x → σ' x) → σ' a → Ary Z h' a ty (List.replicate n (defaultValue ty)) → Go l Z a0 EL n0 kn B D Q h' σ' ce' sl' (pc + 2) Ls (.ref a :: st)) : Go l Z a0 EL n0 kn B D Q h σ ce sl pc Ls (.int z :: st) := by
  subst hce hsl
  exact made (P := fun h' => Ary Z h' h.size ty (List.replicate n (defaultValue ty)))
    (fun T vm0 locs X h1 h4 h5 ok => by
      subst hty
      obtain ⟨q1, q2⟩ := ix_of hz
      obtain ⟨T', h', cA, X', e', E, A, s'⟩ := newP X ok.1 (s := D.s.setVm vm0) h4 w h1 (g := mkF D.m pc Ls (.int z :: st)) rfl (Jvm.hb ok.2.1 hd) rfl q1 (cap := cap) (by rw [q2]; exact hcap) hb hc hs
      refine ⟨T', h', X', e', E, A.lt, ⟨_, A, ?_, ?_, ?_⟩, s'⟩
      · show (Array.replicate z.toNatClampNeg (defaultValue (newarray.typeOf aty))).toList = _
        rw [q2, Array.toList_replicate]
      · rw [List.length_replicate]; omega
      · intro v hv
        rw [(List.mem_replicate.mp hv).2]
        cases aty <;> rfl)
    (fun h' σ' K hlt m1 m2 P => r h.size h' σ' rfl K hlt m1 m2 P)
theorem plainX {pc pc' : Nat} {Ls' : Array Slot} {st' : List Value}
    (k : ∀ T vm0 locs, Stand D.p l D.e B.rm (D.s.setVm vm0) D.m D.args D.bl D.meth D.c T locs ce sl → T.heap = h → Z.Warmed39 vm0 → vm0.findClass B.y.cls = some D.m.cls → Ok B D → ∀ t, Steps D.p.tables D.e D.bl (T.setTop (mkF D.m pc' Ls' st')) t → Steps D.p.tables D.e D.bl (T.setTop (mkF D.m pc Ls st)) t)
    (r : Go l Z a0 EL n0 kn B D Q h σ ce sl pc' Ls' st') : Go l Z a0 EL n0 kn B D Q h σ ce sl pc Ls st := by
  intro ok ew T vm0 I
  obtain ⟨s2, o, q, rest⟩ := r ok ew T vm0 I
  obtain ⟨k0, locs, X, h1, h2, h3, h4, h5, -⟩ := I
  exact ⟨s2, o, k T vm0 locs X h1 h4 h5 ok _ q, rest⟩
theorem alen (pc : Nat) {ty : FieldType} {vs : List Value} {n : Nat} (z : Int32) (hd : decode B.bs pc = .ok (.arraylength, 1)) (A : Ary Z h a ty vs) (hn : vs.length = n) (hz : n.toInt32 = z) (r : Go l Z a0 EL n0 kn B D Q h σ ce sl (pc + 1) Ls (.int z :: st)) : Go l Z a0 EL n0 kn B D Q h σ ce sl pc Ls (.ref a :: st) :=
  plainX (fun T vm0 locs X h1 h4 h5 ok t q => by
    obtain ⟨c, A, e, -⟩ := A
    refine X.arraylength ok.1 (by rw [h1]; exact A.1) (State.isArrayOf_alike (T := D.s.setVm vm0) h4.alike A.2.1) (g := mkF D.m pc Ls (.ref a :: st)) rfl rfl (Jvm.hb ok.2.1 hd) t ?_
    rw [← Array.length_toList, e, hn, hz]; exact q) r
theorem caload (pc : Nat) {vs : List Value} {j : Int32} (i : Nat) {v : Value} (hd : decode B.bs pc = .ok (.caload, 1)) (A : Ary Z h a .char vs) (hj : j.toInt = (i : Int)) (hv : vs[i]? = some v) (r : Go l Z a0 EL n0 kn B D Q h σ ce sl (pc + 1) Ls (v :: st)) : Go l Z a0 EL n0 kn B D Q h σ ce sl pc Ls (.int j :: .ref a :: st) :=
  plainX (fun T vm0 locs X h1 h4 h5 ok t q => by
    obtain ⟨c, A, e, -⟩ := A
    have hi : i < vs.length := (List.getElem?_eq_some_iff.mp hv).1
    exact X.caload ok.1 (by rw [h1]; exact A.1) (State.isArrayOf_alike (T := D.s.setVm vm0) h4.alike A.2.1) A.2.2 (Ary.inb e hj hi) (by rw [(ix_of hj).2, ← Array.getElem?_toList, e]; exact hv) (g := mkF D.m pc Ls (.int j :: .ref a :: st)) rfl rfl (Jvm.hb ok.2.1 hd) t q) r
theorem baload (pc : Nat) {vs : List Value} {j : Int32} (i : Nat) {v : Value} (hd : decode B.bs pc = .ok (.baload, 1)) (A : Ary Z h a .byte vs) (hj : j.toInt = (i : Int)) (hv : vs[i]? = some v) (r : Go l Z a0 EL n0 kn B D Q h σ ce sl (pc + 1) Ls (v :: st)) : Go l Z a0 EL n0 kn B D Q h σ ce sl pc Ls (.int j :: .ref a :: st) :=
  plainX (fun T vm0 locs X h1 h4 h5 ok t q => by
    obtain ⟨c, A, e, -⟩ := A
    have hi : i < vs.length := (List.getElem?_eq_some_iff.mp hv).1
    exact X.baloadBytes ok.1 (by rw [h1]; exact A.1) (State.isArrayOf_alike (T := D.s.setVm vm0) h4.alike A.2.1) A.2.2 (Ary.inb e hj hi) (by rw [(ix_of hj).2, ← Array.getElem?_toList, e]; exact hv) (g := mkF D.m pc Ls (.int j :: .ref a :: st)) rfl rfl (Jvm.hb ok.2.1 hd) t q) r
theorem laload (pc : Nat) {vs : List Value} {j : Int32} (i : Nat) {v : Value} (hd : decode B.bs pc = .ok (.laload, 1)) (A : Ary Z h a .long vs) (hj : j.toInt = (i : Int)) (hv : vs[i]? = some v) (r : Go l Z a0 EL n0 kn B D Q h σ ce sl (pc + 1) Ls (v :: st)) : Go l Z a0 EL n0 kn B D Q h σ ce sl pc Ls (.int j :: .ref a :: st) :=
  plainX (fun T vm0 locs X h1 h4 h5 ok t q => by
    obtain ⟨c, A, e, -⟩ := A
    have hi : i < vs.length := (List.getElem?_eq_some_iff.mp hv).1
    exact X.laload ok.1 (by rw [h1]; exact A.1) (State.isArrayOf_alike (T := D.s.setVm vm0) h4.alike A.2.1) A.2.2 (Ary.inb e hj hi) (by rw [(ix_of hj).2, ← Array.getElem?_toList, e]; exact hv) (g := mkF D.m pc Ls (.int j :: .ref a :: st)) rfl rfl (Jvm.hb ok.2.1 hd) t q) r
theorem castore (pc : Nat) {vs : List Value} {j x : Int32} (i : Nat) (w : Int32) (hd : decode B.bs pc = .ok (.castore, 1)) (A : Ary Z h a .char vs) (hj : j.toInt = (i : Int)) (hi : i < vs.length) (hw : nar .char x = w) (hσ : σ a)
    (r : ∀ h', Keep h h' [a] → Ary Z h' a .char (vs.set i (.int w)) → Go l Z a0 EL n0 kn B D Q h' σ ce sl (pc + 1) Ls st) : Go l Z a0 EL n0 kn B D Q h σ ce sl pc Ls (.int x :: .int j :: .ref a :: st) :=
  wrote hσ (i := i) (v := .int w) (fun T vm0 locs X h1 h4 h5 ok => by
    subst hw
    obtain ⟨c, Ar, e, -⟩ := A
    have := stC X ok.1 (s := D.s.setVm vm0) h4 h1 Ar (Ary.inb e hj hi) (g := mkF D.m pc Ls (.int x :: .int j :: .ref a :: st)) rfl rfl (Jvm.hb ok.2.1 hd)
    rw [(ix_of hj).2] at this; exact this)
    (fun h' W K => r h' K (A.wr W (hw ▸ fits_nar_char x)))
theorem bastore (pc : Nat) {vs : List Value} {j x : Int32} (i : Nat) (w : Int32) (hd : decode B.bs pc = .ok (.bastore, 1)) (A : Ary Z h a .byte vs) (hj : j.toInt = (i : Int)) (hi : i < vs.length) (hw : nar .byte x = w) (hσ : σ a)
    (r : ∀ h', Keep h h' [a] → Ary Z h' a .byte (vs.set i (.int w)) → Go l Z a0 EL n0 kn B D Q h' σ ce sl (pc + 1) Ls st) : Go l Z a0 EL n0 kn B D Q h σ ce sl pc Ls (.int x :: .int j :: .ref a :: st) :=
  wrote hσ (i := i) (v := .int w) (fun T vm0 locs X h1 h4 h5 ok => by
    subst hw
    obtain ⟨c, Ar, e, -⟩ := A
    have := stB X ok.1 (s := D.s.setVm vm0) h4 h1 Ar (Ary.inb e hj hi) (g := mkF D.m pc Ls (.int x :: .int j :: .ref a :: st)) rfl rfl (Jvm.hb ok.2.1 hd)
    rw [(ix_of hj).2] at this; exact this)
    (fun h' W K => r h' K (A.wr W (hw ▸ fits_nar_byte x)))
theorem lastore (pc : Nat) {vs : List Value} {j : Int32} {x : Int64} (i : Nat) (hd : decode B.bs pc = .ok (.lastore, 1)) (A : Ary Z h a .long vs) (hj : j.toInt = (i : Int)) (hi : i < vs.length) (hσ : σ a)
    (r : ∀ h', Keep h h' [a] → Ary Z h' a .long (vs.set i (.long x)) → Go l Z a0 EL n0 kn B D Q h' σ ce sl (pc + 1) Ls st) : Go l Z a0 EL n0 kn B D Q h σ ce sl pc Ls (.long x :: .int j :: .ref a :: st) :=
  wrote hσ (i := i) (v := .long x) (fun T vm0 locs X h1 h4 h5 ok => by
    obtain ⟨c, Ar, e, -⟩ := A
    have := stJ X ok.1 (s := D.s.setVm vm0) h4 h1 Ar (Ary.inb e hj hi) (g := mkF D.m pc Ls (.long x :: .int j :: .ref a :: st)) rfl rfl (Jvm.hb ok.2.1 hd)
    rw [(ix_of hj).2] at this; exact this)
    (fun h' W K => r h' K (A.wr W rfl))
theorem ldcI (pc : Nat) {ix : Nat} {v : Int32} (hd : decode B.bs pc = .ok (.ldc ix, 2)) (w : (Jvm.Cond.constant B.y.cls ix v).before a0 Z = true) (r : Go l Z a0 EL n0 kn B D Q h σ ce sl (pc + 2) Ls (.int v :: st)) : Go l Z a0 EL n0 kn B D Q h σ ce sl pc Ls st :=
  plainX (fun T vm0 locs X h1 h4 h5 ok t q => X.ldcI ok.1 (own := B.y.cls) h5 (mv (s := D.s.setVm vm0) h4 w) (g := mkF D.m pc Ls st) rfl (Jvm.hb ok.2.1 hd) q) r
theorem ldc2J (pc : Nat) {ix : Nat} {v : Int64} (hd : decode B.bs pc = .ok (.ldc2_w ix, 3)) (w : (Jvm.Cond.constantLong B.y.cls ix v).before a0 Z = true) (r : Go l Z a0 EL n0 kn B D Q h σ ce sl (pc + 3) Ls (.long v :: st)) : Go l Z a0 EL n0 kn B D Q h σ ce sl pc Ls st :=
  plainX (fun T vm0 locs X h1 h4 h5 ok t q => X.ldc2J ok.1 (own := B.y.cls) h5 (mv (s := D.s.setVm vm0) h4 w) (g := mkF D.m pc Ls st) rfl (Jvm.hb ok.2.1 hd) q) r
end Heap
end Jvm.Road
namespace Jvm.Road
open Jvm Jvm.ClassFile Sem Op Lib Jvm.Free Jvm.Stand Jvm.LawKit Jvm.RoadKit Bundle
section Cast
variable {l : Launch} {Z : State} {a0 : Array Value} {EL : List (String × Nat)} {n0 : Nat} {kn : Bool} {B : Bdy} {D : Dyn} {Q : Post} {h : Heap} {σ : Addr → Prop} {ce sl : Nat} {Ls : Array Slot} {st : List Value} {a : Addr}
theorem instYes (pc : Nat) {ix : Nat} {K : String} (hd : decode B.bs pc = .ok (.instanceof ix, 3)) (w : (Jvm.Cond.classLink B.y.cls ix K).before a0 Z = true) (F : Ins Z h a K true) (r : Go l Z a0 EL n0 kn B D Q h σ ce sl (pc + 3) Ls (.int 1 :: st)) : Go l Z a0 EL n0 kn B D Q h σ ce sl pc Ls (.ref a :: st) := by
  intro ok ew T vm0 I
  obtain ⟨k0, locs, X, h1, h2, h3, h4, h5, h6, h7, h8, h9, h10⟩ := I
  obtain ⟨T', X', e', s'⟩ := instY X ok.1 (s := D.s.setVm vm0) h4 h5 w h1 F (g := mkF D.m pc Ls (.ref a :: st)) rfl rfl (Jvm.hb ok.2.1 hd)
  obtain ⟨s2, o, q, rest⟩ := r ok ew T' vm0 ⟨k0, locs, X', e', h2, h3, h4, h5, h6, h7, h8, h9, h10⟩
  exact ⟨s2, o, s' _ q, rest⟩
theorem castYes (pc : Nat) {ix : Nat} {K : String} (hd : decode B.bs pc = .ok (.checkcast ix, 3)) (w : (Jvm.Cond.classLink B.y.cls ix K).before a0 Z = true) (F : Ins Z h a K true) (r : Go l Z a0 EL n0 kn B D Q h σ ce sl (pc + 3) Ls (.ref a :: st)) : Go l Z a0 EL n0 kn B D Q h σ ce sl pc Ls (.ref a :: st) := by
  intro ok ew T vm0 I
  obtain ⟨k0, locs, X, h1, h2, h3, h4, h5, h6, h7, h8, h9, h10⟩ := I
  obtain ⟨T', X', e', s'⟩ := castY X ok.1 (s := D.s.setVm vm0) h4 h5 w h1 F (g := mkF D.m pc Ls (.ref a :: st)) rfl rfl (Jvm.hb ok.2.1 hd)
  obtain ⟨s2, o, q, rest⟩ := r ok ew T' vm0 ⟨k0, locs, X', e', h2, h3, h4, h5, h6, h7, h8, h9, h10⟩
  exact ⟨s2, o, s' _ q, rest⟩
end Cast
theorem Fld.uniq {Z : State} {h : Heap} {a : Addr} {C n d : String} {v w : Value} (F : Fld Z h a C n d v) (G : Fld Z h a C n d w) : v = w := by
  obtain ⟨c1, _, _, _, f1, a1, a2, -, -, -, -, a7⟩ := F
  obtain ⟨c2, _, _, _, f2, b1, b2, -, -, -, -, b7⟩ := G
  cases a1.symm.trans b1
  have q := a2.symm.trans b2
  simp only [Option.some.injEq, Prod.mk.injEq] at q
  obtain ⟨-, -, -, rfl⟩ := q
  exact Option.some.inj (a7.symm.trans b7)
theorem Ary.uniq {Z : State} {h : Heap} {a : Addr} {ty ty' : FieldType} {vs ws : List Value} (F : Ary Z h a ty vs) (G : Ary Z h a ty' ws) : vs = ws := by
  obtain ⟨c1, A1, e1, -⟩ := F
  obtain ⟨c2, A2, e2, -⟩ := G
  cases A1.1.symm.trans A2.1
  exact e1.symm.trans e2
end Jvm.Road
namespace Jvm.Road
open Jvm Jvm.ClassFile Sem Op Lib Jvm.Free Jvm.Stand Jvm.LawKit Jvm.RoadKit Bundle
section Clone
variable {l : Launch} {Z : State} {a0 : Array Value} {EL : List (String × Nat)} {n0 : Nat} {kn : Bool} {B : Bdy} {D : Dyn} {Q : Post} {h : Heap} {σ : Addr → Prop} {ce sl : Nat} {Ls : Array Slot} {st : List Value} {a : Addr}
theorem cloneArr (pc : Nat) {ix : Nat} {ad : String} {ty : FieldType} {vs : List Value} (W cap : Nat) (hd : decode B.bs pc = .ok (.invokevirtual ix, 3))
    (w1 : (Jvm.Cond.methodLink B.y.cls ix ⟨ad, "clone", "()Ljava/lang/Object;"⟩).before a0 Z = true) (w2 : (Jvm.Cond.sameMethod ad "java/lang/Object" "clone" "()Ljava/lang/Object;").before a0 Z = true) (w3 : (Jvm.Cond.native ⟨"java/lang/Object", "clone", "()Ljava/lang/Object;"⟩).before a0 Z = true)
    (w4 : (Jvm.Cond.instanceMethod ⟨"java/lang/Object", "clone", "()Ljava/lang/Object;"⟩).before a0 Z = true) (w5 : (Jvm.Cond.selects ad ⟨ad, "clone", "()Ljava/lang/Object;"⟩ ⟨"java/lang/Object", "clone", "()Ljava/lang/Object;"⟩).before a0 Z = true) (w6 : (Jvm.Cond.castable ad "java/lang/Cloneable").before a0 Z = true)
    (A : Ary Z h a ty vs) (E : Exa Z h a ad) (hW : (st.map fun v => v.category).sum = W) (hsz : Ls.size = B.ml) (hf : 1 ≤ B.rm.frames) (hl : W + 14 ≤ B.rm.locals) (hcap : vs.length ≤ cap) {ce' sl' : Nat} (hce : ce + 1 = ce') (hsl : sl + cap = sl') (hc : ce' ≤ B.rm.cells) (hs : sl' ≤ B.rm.slots)
    (r : ∀ b h' σ', b = h.size → Keep h h' [] → b < h'.size → (∀ x, σ x → σ' x) → σ' b → Ary Z h' b ty vs → Exa Z h' b ad → Go l Z a0 EL n0 kn B D Q h' σ' ce' sl' (pc + 3) Ls (.ref b :: st)) : Go l Z a0 EL n0 kn B D Q h σ ce sl pc Ls (.ref a :: st) := by
  subst hce hsl
  exact made (P := fun h' => Ary Z h' h.size ty vs ∧ Exa Z h' h.size ad)
    (fun T vm0 locs X h1 h4 h5 ok => by
      obtain ⟨cl, Ar, e, q, f⟩ := A
      obtain ⟨T', h', X', e', ex, A', E', s'⟩ := cloneA X ok.1 (s := D.s.setVm vm0) h4 h5 w1 w2 w3 w4 w5 w6 h1 Ar E (fitC_of Ar fun i hi v hv => f v (by rw [← e]; exact List.mem_of_getElem? (by rw [Array.getElem?_toList]; exact hv))) (g := mkF D.m pc Ls (.ref a :: st)) rfl (hsz.trans ok.2.2.1.symm) rfl (Jvm.hb ok.2.1 hd) hf (W := W) (cap := cap) (by show 2 * 0 + _ ≤ _; rw [hW]; omega) hl (by rw [← Array.length_toList, e]; exact hcap) hc hs
      exact ⟨T', h', X', e', ex, E'.lt, ⟨⟨_, A', e, q, f⟩, E'⟩, s'⟩)
    (fun h' σ' K hlt m1 m2 P => r h.size h' σ' rfl K hlt m1 m2 P.1 P.2)
theorem aaload (pc : Nat) {ty : FieldType} {vs : List Value} {j : Int32} (i : Nat) {v : Value} (hd : decode B.bs pc = .ok (.aaload, 1)) (A : Ary Z h a ty vs) (hty : ty.isReference = true) (hj : j.toInt = (i : Int)) (hv : vs[i]? = some v) (r : Go l Z a0 EL n0 kn B D Q h σ ce sl (pc + 1) Ls (v :: st)) : Go l Z a0 EL n0 kn B D Q h σ ce sl pc Ls (.int j :: .ref a :: st) :=
  plainX (fun T vm0 locs X h1 h4 h5 ok t q => by
    obtain ⟨c, A, e, -⟩ := A
    have hi : i < vs.length := (List.getElem?_eq_some_iff.mp hv).1
    exact X.aaload ok.1 (by rw [h1]; exact A.1) (State.isArrayOf_alike (T := D.s.setVm vm0) h4.alike A.2.1) hty A.2.2 (Ary.inb e hj hi) (by rw [(ix_of hj).2, ← Array.getElem?_toList, e]; exact hv) (g := mkF D.m pc Ls (.int j :: .ref a :: st)) rfl rfl (Jvm.hb ok.2.1 hd) t q) r
theorem instNull (pc : Nat) {ix : Nat} (hd : decode B.bs pc = .ok (.instanceof ix, 3)) (r : Go l Z a0 EL n0 kn B D Q h σ ce sl (pc + 3) Ls (.int 0 :: st)) : Go l Z a0 EL n0 kn B D Q h σ ce sl pc Ls (.null :: st) :=
  plainX (fun T vm0 locs X h1 h4 h5 ok t q => X.instanceofNull ok.1 (g := mkF D.m pc Ls (.null :: st)) rfl rfl (Jvm.hb ok.2.1 hd) t q) r
end Clone
end Jvm.Road
namespace Jvm.Road
open Jvm Jvm.ClassFile Sem Op Lib Jvm.Free Jvm.Stand Jvm.LawKit Jvm.RoadKit Bundle
section Ends
variable {l : Launch} {Z : State} {a0 : Array Value} {EL : List (String × Nat)} {n0 : Nat} {kn : Bool} {B : Bdy} {D : Dyn} {Q : Post} {h : Heap} {σ : Addr → Prop} {ce sl : Nat} {Ls : Array Slot} {st : List Value} {a : Addr}
theorem own_at {vm0 : Vm} {T : State} {locs : List Loc} (X : Stand D.p l D.e B.rm (D.s.setVm vm0) D.m D.args D.bl D.meth D.c T locs ce sl) (hZ : Z.Warmed39 vm0) (ew : EW Z a0 EL) (hC : CHv Z EL vm0 h) {x : Addr} (hx : Own Z EL n0 vm0 h x) : Own Z EL n0 T.vm h x :=
  ⟨(CHv.at X hZ ew hC).safe hx.2.2 hx.1, hx.2.1, hx.2.2⟩
/-- the end of a walk -/
theorem ended {pc : Nat} {v : Option Value} (hv : B.rt = none → v = none) (hc : ce ≤ B.rm.cells) (hs : sl ≤ B.rm.slots) (hq : ∀ σ', (∀ x, σ x → σ' x) → Q v h σ')
    (k : ∀ T vm0 locs fs, Stand D.p l D.e B.rm (D.s.setVm vm0) D.m D.args D.bl D.meth D.c T locs ce sl → Ok B D → (∀ (f : JFrame) (acts : List Action), f.method = D.m → f.locked = none → f.entered = [] → (doReturn D.e (T.setTop f) acts v).1 = T.setFrames fs) → Steps D.p.tables D.e D.bl (T.setTop (mkF D.m pc Ls st)) (T.setFrames fs)) :
    Go l Z a0 EL n0 kn B D Q h σ ce sl pc Ls st := by
  intro ok ew T vm0 I
  obtain ⟨k0, locs, X, h1, h2, h3, h4, h5, h6, h7, h8, h9, h10⟩ := I
  obtain ⟨fs, hr, hrun, hended, hE⟩ := X.leaveW h2 (by rw [h1]; exact h3) (v := v) (fun q => hv (ok.2.2.2.1.symm.trans q)) ok.2.2.2.2.1
  have hh : (T.setFrames fs).heap = h := h1
  refine ⟨T.setFrames fs, .returned v, k T vm0 locs fs X ok hr, hrun, hended, v, locs, rfl, ?_, h7, ?_, ?_, ⟨hE.1, hE.2.1, hE.2.2.1, hE.2.2.2.mono hc hs⟩⟩
  · rw [hh]; exact hq _ fun x hx => own_at X h4 ew h6.1 (h9 x hx)
  · rw [hh]; exact h6.trans (show CHr Z EL vm0 h T.vm h from CHv.at X h4 ew h6.1)
  · rw [hh]; exact h8
theorem ret (pc : Nat) (hd : decode B.bs pc = .ok (.return_, 1)) (hrt : B.rt = none) (hc : ce ≤ B.rm.cells) (hs : sl ≤ B.rm.slots) (hq : ∀ σ', (∀ x, σ x → σ' x) → Q none h σ') : Go l Z a0 EL n0 kn B D Q h σ ce sl pc Ls [] :=
  ended (fun _ => rfl) hc hs hq (fun T vm0 locs fs X ok hr => X.returnOut ok.1 (ok.2.2.2.1.trans hrt) (Jvm.hb ok.2.1 hd) hr)
theorem iret (pc : Nat) {x : Int32} {t : FieldType} (w : Int32) (hd : decode B.bs pc = .ok (.ireturn, 1)) (hrt : B.rt = some t) (ht : t = .boolean ∨ t = .byte ∨ t = .char ∨ t = .short) (hw : nar t x = w) (hc : ce ≤ B.rm.cells) (hs : sl ≤ B.rm.slots) (hq : ∀ σ', (∀ x, σ x → σ' x) → Q (some (.int w)) h σ') : Go l Z a0 EL n0 kn B D Q h σ ce sl pc Ls (.int x :: st) :=
  ended (fun q => by rw [hrt] at q; cases q) hc hs hq (fun T vm0 locs fs X ok hr => retN X ok.1 (t := t) (ok.2.2.2.1.trans hrt) ht (Jvm.hb ok.2.1 hd) (by rw [hw]; exact hr))
theorem iretI (pc : Nat) {x : Int32} (hd : decode B.bs pc = .ok (.ireturn, 1)) (hrt : B.rt = some .int) (hc : ce ≤ B.rm.cells) (hs : sl ≤ B.rm.slots) (hq : ∀ σ', (∀ x, σ x → σ' x) → Q (some (.int x)) h σ') : Go l Z a0 EL n0 kn B D Q h σ ce sl pc Ls (.int x :: st) :=
  ended (fun q => by rw [hrt] at q; cases q) hc hs hq (fun T vm0 locs fs X ok hr => retOut X ok.1 (t := .int) (ok.2.2.2.1.trans hrt) rfl (Or.inl ⟨rfl, Or.inl rfl, x, rfl⟩) (Jvm.hb ok.2.1 hd) hr)
theorem aret (pc : Nat) {v : Value} {t : FieldType} (hd : decode B.bs pc = .ok (.areturn, 1)) (hrt : B.rt = some t) (ht : t.isReference = true) (hv : v.isRef = true) (hc : ce ≤ B.rm.cells) (hs : sl ≤ B.rm.slots) (hq : ∀ σ', (∀ x, σ x → σ' x) → Q (some v) h σ') : Go l Z a0 EL n0 kn B D Q h σ ce sl pc Ls (v :: st) :=
  ended (fun q => by rw [hrt] at q; cases q) hc hs hq (fun T vm0 locs fs X ok hr => retOut X ok.1 (t := t) (ok.2.2.2.1.trans hrt) (by rcases ref_cases hv with rfl | ⟨_, rfl⟩ <;> cases t <;> first | rfl | (cases ht; done)) (Or.inr (Or.inr (Or.inr (Or.inr ⟨rfl, ht, hv⟩)))) (Jvm.hb ok.2.1 hd) hr)
/-- ldc of a String constant that is read -/
theorem ldcS (pc : Nat) {ix : Nat} (text : String) (cs : List Int32) (n : Nat) (hd : decode B.bs pc = .ok (.ldc ix, 2)) (w : (Jvm.Cond.stringLink B.y.cls ix text).before a0 Z = true) (wS : ∀ a ∈ Bundle.stringAtoms, a.before a0 Z = true) (hmem : (B.y.cls, ix) ∈ EL)
    (ht : ∀ c ∈ text.toList, c.toNat < 256) (hvs : text.toList.map (fun c => Value.int (Jvm.Lit.byteI c.toNat.toUInt16)) = cs.map byt) (hcs : ∀ c ∈ cs, 0 ≤ c.toInt ∧ c.toInt < 256) (hn : 4 * text.toList.length ≤ n) (hbig : n ≤ 536870912) {ce' sl' : Nat} (hce : ce + 2 = ce') (hsl : sl + (n + 4) = sl') (hc : ce' ≤ B.rm.cells) (hs : sl' ≤ B.rm.slots)
    (r : ∀ a b h' σ', Keep h h' [] → (∀ x, σ x → σ' x) → Str Z h' a b cs → (∀ x, σ' x → x ≠ a ∧ x ≠ b) → Go l Z a0 EL n0 kn B D Q h' σ' ce' sl' (pc + 2) Ls (.ref a :: st)) : Go l Z a0 EL n0 kn B D Q h σ ce sl pc Ls st := by
  subst hce hsl
  intro ok ew T vm0 I
  obtain ⟨k0, locs, X, h1, h2, h3, h4, h5, h6, h7, h8, h9, h10⟩ := I
  have hlen : (cs.map byt).length = text.toList.length := by rw [← hvs, List.length_map]
  have hsm : text.toList.length < 2147483648 := by omega
  have hz : (text.toList.length).toInt32.toInt = (text.toList.length : Int) := len_toInt hsm
  obtain ⟨q1, q2⟩ := ix_of hz
  obtain ⟨a, T', h', k1, b, k, X', e', E, hS', hk', hZ', ho', E1, E2, E3, E4, l1, l2, hCr, hL, hne, s'⟩ := ldcCH (s := D.s) X ok.1 h4 h5 w wS h1 h2 h3 ew hmem h6.1 (vs := cs.map byt) (z := (text.toList.length).toInt32) ⟨ht, hvs⟩ q1 (by rw [q2, hlen]) (g := mkF D.m pc Ls st) rfl (Jvm.hb ok.2.1 hd) hn hbig hc hs
  have hal : vm0.Alike T'.vm := by
    have z1 := h4.alike
    have z2 : Z.vm.Alike T'.vm := State.Warmed39.alike hZ'
    exact z1.symm.trans z2
  obtain ⟨s2, o, q, rest⟩ := r a b h' (Own Z EL n0 T'.vm h') (keep_ext E) (fun x hx => ⟨hCr.safe (h9 x hx).2.2 (h9 x hx).1, (h9 x hx).2.1, Nat.lt_of_lt_of_le (h9 x hx).2.2 E.1⟩) ⟨E1, E2, E3, Ary.of_arv E4 (by rw [q2, hlen]), hcs⟩ (fun x hx => hne x hx.1) ok ew T' T'.vm
    ⟨k1, locs, X', e', hS', hk', hZ', ho', h6.trans hCr, h7, h8.ext E, fun x hx => hx, fun z => ⟨(h10 z).1.alikeC hal, (h10 z).2.alikeC hal⟩⟩
  exact ⟨s2, o, s' _ q, rest⟩
end Ends
section Calls
variable {l : Launch} {Z : State} {a0 : Array Value} {EL : List (String × Nat)} {n0 : Nat} {kn : Bool} {B B' : Bdy} {D : Dyn} {Q Q' : Post} {h : Heap} {σ : Addr → Prop} {ce sl : Nat} {Ls : Array Slot} {st : List Value} {a : Addr}
theorem Con.back {R : Room} {p : Program} {e : Env} {below : List Frame} {s : State} {args : Array Value} {vm0 : Vm} {len W : Nat} {as : Array Value} (hM : Con l Z EL n0 kn B' [] σ as h Q') (hZ : Z.Warmed39 vm0) (wc : (Jvm.Cond.code B'.y B'.bs B'.ml B'.rt).before a0 Z = true) (wz : (Jvm.Cond.initialized B'.y.cls).before a0 Z = true)
    (hf : B'.rm.frames + 1 ≤ R.frames) (hl : W + (B'.ml + 11) + B'.rm.locals ≤ R.locals) (hEL : EW Z a0 EL) (H : CHv Z EL vm0 h) (hO : Old Z n0 h) (hσ : ∀ x, σ x → Own Z EL n0 vm0 h x) (hK : kn = true → vm0.MethodsKnown ∧ vm0.FramesKnown below) :
    BackS l R p e below (s.setVm vm0) args B'.y len W (fun A a => a = as ∧ A.U.heap = h ∧ A.cells + B'.rm.cells ≤ R.cells ∧ A.slots + B'.rm.slots ≤ R.slots)
      (fun A _ v Bp => ∃ L, (Q' v Bp.U.heap (Own Z EL n0 Bp.U.vm Bp.U.heap) ∧ Fr n0 L ∧ Old Z n0 Bp.U.heap) ∧ Bp.locs = A.locs ++ L ∧ Bp.cells = A.cells + B'.rm.cells ∧ Bp.slots = A.slots + B'.rm.slots ∧ CHr Z EL vm0 h Bp.U.vm Bp.U.heap) :=
  BackS.of_freeWG (bytes := B'.bs) (maxL := B'.ml) (ret := B'.rt) (E := fun _ first o t L k n => k = B'.rm.cells ∧ n = B'.rm.slots ∧ (∃ v, o = .returned v ∧ Q' v t.heap (Own Z EL n0 t.vm t.heap) ∧ Fr n0 L ∧ Old Z n0 t.heap) ∧ CHr Z EL first.vm first.heap t.vm t.heap) hM hf hl
    (fun m meth c A a Y hp => have hU : Z.Warmed39 A.U.vm := wtrans (s := s.setVm vm0) hZ Y.warmed
      ⟨by show (Cond.and _ .tt).before a A.U = true; rw [Cond.before_and, mv hU wc]; rfl, mv hU wc, mv hU wz, hp.2.2.1, hp.2.2.2⟩)
    (fun m meth c A a g mk Y hp => ⟨hp.1, wtrans (s := s.setVm vm0) hZ Y.warmed, hp.2.1, (CHv.at Y hZ hEL H).1, hO, fun x hx => ⟨(CHv.at Y hZ hEL H).safe (hσ x hx).2.2 (hσ x hx).1, (hσ x hx).2⟩⟩)
    (fun m meth c A a g mk Y _ hg hkn => known_frames Y hg (hK hkn).1 (hK hkn).2)
    (fun _ _ _ _ ⟨v, L, h1, h2, h3, h4, h5, h6⟩ => ⟨L, _, _, h6, rfl, rfl, ⟨v, h1, h2, h3, h5⟩, h4⟩)
    (fun m meth c A a g mk v t L k n Y hp _ _ ⟨e1, e2, ⟨v', e3, e4⟩, e5⟩ => by
      cases e3; subst e1 e2
      refine ⟨L, e4, rfl, rfl, rfl, (CHv.at Y hZ hEL H).trans ?_⟩
      rw [← hp.2.1]; exact e5)
/-- behind a call -/
theorem called {pc len : Nat} {rest : List Value} {as : Array Value} (W : Nat) (hM : Con l Z EL n0 kn B' [] σ as h Q') (wc : (Jvm.Cond.code B'.y B'.bs B'.ml B'.rt).before a0 Z = true) (wz : (Jvm.Cond.initialized B'.y.cls).before a0 Z = true)
    (hf : B'.rm.frames + 1 ≤ B.rm.frames) (hl : W + (B'.ml + 11) + B'.rm.locals ≤ B.rm.locals) (hc : ce + B'.rm.cells ≤ B.rm.cells) (hs : sl + B'.rm.slots ≤ B.rm.slots)
    (k : ∀ T vm0 locs, Stand D.p l D.e B.rm (D.s.setVm vm0) D.m D.args D.bl D.meth D.c T locs ce sl → T.heap = h → Z.Warmed39 vm0 → vm0.findClass B.y.cls = some D.m.cls → Ok B D →
      ∀ {Pre : Pt → Array Value → Prop} {Pst : Pt → Array Value → Option Value → Pt → Prop}, BackS l B.rm D.p D.e D.bl (D.s.setVm vm0) D.args B'.y len W Pre Pst → (∀ vm₁, (D.s.setVm vm0).WarmedH vm₁ → Pre ⟨T.setVm vm₁, locs, ce, sl⟩ as) →
      ∃ (v : Option Value) (vm₁ : Vm) (Bp : Pt), (D.s.setVm vm0).WarmedH vm₁ ∧ Stand D.p l D.e B.rm ((D.s.setVm vm0).setVm Bp.U.vm) D.m D.args D.bl D.meth D.c Bp.U Bp.locs Bp.cells Bp.slots ∧ (D.s.setVm vm0).Since Bp.U.vm Bp.U.heap.size ∧ T.heap.size ≤ Bp.U.heap.size ∧ Pst ⟨T.setVm vm₁, locs, ce, sl⟩ as v Bp ∧
        Steps D.p.tables D.e D.bl (T.setTop (mkF D.m pc Ls st)) (Bp.U.setTop (mkF D.m (pc + len) Ls (v.toList ++ rest))))
    (r : ∀ v h' σ', (∀ x, σ x → σ' x) → Q' v h' σ' → Go l Z a0 EL n0 kn B D Q h' σ' (ce + B'.rm.cells) (sl + B'.rm.slots) (pc + len) Ls (push v rest)) : Go l Z a0 EL n0 kn B D Q h σ ce sl pc Ls st := by
  intro ok ew T vm0 I
  obtain ⟨k0, locs, X, h1, h2, h3, h4, h5, h6, h7, h8, h9, h10⟩ := I
  obtain ⟨v, vm₁, ⟨U, Lc, kc, ks⟩, -, X', hS', hgr, ⟨L, ⟨hQ, hFr, hOld⟩, e1, e2, e3, hCr⟩, stp⟩ := k T vm0 locs X h1 h4 h5 ok (Con.back (s := D.s) hM h4 wc wz hf hl ew h6.1 h8 h9 h10) (fun vm₁ _ => ⟨rfl, h1, hc, hs⟩)
  dsimp only [Pt.U, Pt.locs, Pt.cells, Pt.slots] at X' hS' hgr hQ hOld e1 e2 e3 hCr stp
  subst e1 e2 e3
  obtain ⟨Y, hS2, hZ2, ho2⟩ := rebS h2 (by rw [← h1] at h3; exact h3) X' hS' hgr h4 h5
  have hal : vm0.Alike U.vm := hS'.1.alike
  rw [push_eq] at stp
  obtain ⟨s2, o, q, rest'⟩ := r v U.heap (Own Z EL n0 U.vm U.heap) (fun x hx => ⟨hCr.safe (h9 x hx).2.2 (h9 x hx).1, (h9 x hx).2.1, Nat.lt_of_lt_of_le (h9 x hx).2.2 (by rw [← h1]; exact hgr)⟩) hQ ok ew U U.vm
    ⟨U.heap.size, _, Y, rfl, hS2, Nat.le_refl _, hZ2, ho2, h6.trans hCr, h7.app hFr, hOld, fun x hx => hx, fun z => ⟨(h10 z).1.alikeC hal, (h10 z).2.alikeC hal⟩⟩
  exact ⟨s2, o, stp.trans q, rest'⟩
abbrev notMH (y : MethodName) : Prop := y.cls ≠ "java/lang/invoke/MethodHandle" ∧ y.cls ≠ "java/lang/invoke/VarHandle"
theorem callS (pc : Nat) {ix : Nat} {argsL rest : List Value} (W : Nat) (hd : decode B.bs pc = .ok (.invokestatic ix, 3)) (w1 : (Jvm.Cond.methodLink B.y.cls ix B'.y).before a0 Z = true) (w2 : (Jvm.Cond.static B'.y).before a0 Z = true) (w3 : (Jvm.Cond.initialized B'.y.cls).before a0 Z = true) (w4 : (Jvm.Cond.code B'.y B'.bs B'.ml B'.rt).before a0 Z = true) (hy : notMH B'.y)
    (hM : Con l Z EL n0 kn B' [] σ argsL.toArray h Q') (hlen : ∀ sig, parseMethodDescriptor B'.y.desc = some sig → argsL.length = sig.parameters.length) (hst : st = argsL.reverse ++ rest) (hW : (rest.map fun v => v.category).sum = W) (hsz : Ls.size = B.ml)
    (hf : B'.rm.frames + 1 ≤ B.rm.frames) (hl : W + (B'.ml + 11) + B'.rm.locals ≤ B.rm.locals) {ce' sl' : Nat} (hce : ce + B'.rm.cells = ce') (hsl : sl + B'.rm.slots = sl') (hc : ce' ≤ B.rm.cells) (hs : sl' ≤ B.rm.slots)
    (r : ∀ v h' σ', (∀ x, σ x → σ' x) → Q' v h' σ' → Go l Z a0 EL n0 kn B D Q h' σ' ce' sl' (pc + 3) Ls (push v rest)) : Go l Z a0 EL n0 kn B D Q h σ ce sl pc Ls st := by
  subst hce hsl
  exact called W hM w4 w3 hf hl hc hs (fun T vm0 locs X h1 h4 h5 ok {Pre Pst} hB hpre =>
    callSS X ok.1 (s := D.s.setVm vm0) h5 (mv (s := D.s.setVm vm0) h4 w1) (mv (s := D.s.setVm vm0) h4 w2) (mv (s := D.s.setVm vm0) h4 w3) (mv (s := D.s.setVm vm0) h4 w4) hy hB (g := mkF D.m pc Ls st) rfl (hsz.trans ok.2.2.1.symm) (argsL := argsL) (rest := rest) hlen hst (by show 2 * 0 + _ ≤ _; rw [hW]; omega) (Jvm.hb ok.2.1 hd) hpre) r
theorem callI (pc : Nat) {ix : Nat} {argsL rest : List Value} (W : Nat) (hd : decode B.bs pc = .ok (.invokespecial ix, 3)) (w1 : (Jvm.Cond.methodLink B.y.cls ix B'.y).before a0 Z = true) (w2 : (Jvm.Cond.instanceMethod B'.y).before a0 Z = true) (w3 : (Jvm.Cond.initialized B'.y.cls).before a0 Z = true) (w4 : (Jvm.Cond.code B'.y B'.bs B'.ml B'.rt).before a0 Z = true) (hi : B'.y.name = "<init>") (hrt : B'.rt = none) (hy : notMH B'.y)
    (hM : Con l Z EL n0 kn B' [] σ (.ref a :: argsL).toArray h Q') (hlen : ∀ sig, parseMethodDescriptor B'.y.desc = some sig → argsL.length = sig.parameters.length) (hst : st = argsL.reverse ++ .ref a :: rest) (hW : (rest.map fun v => v.category).sum = W) (hsz : Ls.size = B.ml)
    (hf : B'.rm.frames + 1 ≤ B.rm.frames) (hl : W + (B'.ml + 11) + B'.rm.locals ≤ B.rm.locals) {ce' sl' : Nat} (hce : ce + B'.rm.cells = ce') (hsl : sl + B'.rm.slots = sl') (hc : ce' ≤ B.rm.cells) (hs : sl' ≤ B.rm.slots)
    (r : ∀ v h' σ', (∀ x, σ x → σ' x) → Q' v h' σ' → Go l Z a0 EL n0 kn B D Q h' σ' ce' sl' (pc + 3) Ls (push v rest)) : Go l Z a0 EL n0 kn B D Q h σ ce sl pc Ls st := by
  subst hce hsl
  exact called W hM w4 w3 hf hl hc hs (fun T vm0 locs X h1 h4 h5 ok {Pre Pst} hB hpre =>
    X.specialBackS ok.1 hi (s := D.s.setVm vm0) h5 (mv (s := D.s.setVm vm0) h4 w1) (mv (s := D.s.setVm vm0) h4 w2) (bytes := B'.bs) (maxL := B'.ml) (mv (s := D.s.setVm vm0) h4 (hrt ▸ w4)) hy hB (g := mkF D.m pc Ls st) rfl (hsz.trans ok.2.2.1.symm) (Steps.refl _) (argsL := argsL) (rest := rest) hlen hst (by show 2 * 0 + _ ≤ _; rw [hW]; omega) (Jvm.hb ok.2.1 hd) hpre) r
theorem callV (pc : Nat) {ix : Nat} {y : MethodName} {argsL rest : List Value} (C : String) (W : Nat) (hd : decode B.bs pc = .ok (.invokevirtual ix, 3)) (w1 : (Jvm.Cond.methodLink B.y.cls ix y).before a0 Z = true) (w2 : (Jvm.Cond.declares y).before a0 Z = true) (nf : ∀ vm0, Z.Warmed39 vm0 → NotFace (D.s.setVm vm0) y) (w5 : (Jvm.Cond.selects C y B'.y).before a0 Z = true) (w6 : (Jvm.Cond.instanceMethod B'.y).before a0 Z = true) (w3 : (Jvm.Cond.initialized B'.y.cls).before a0 Z = true) (w4 : (Jvm.Cond.code B'.y B'.bs B'.ml B'.rt).before a0 Z = true) (hy : notMH y)
    (E : Exa Z h a C) (hM : Con l Z EL n0 kn B' [] σ (.ref a :: argsL).toArray h Q') (hlen : ∀ sig, parseMethodDescriptor y.desc = some sig → argsL.length = sig.parameters.length) (hst : st = argsL.reverse ++ .ref a :: rest) (hW : (rest.map fun v => v.category).sum = W) (hsz : Ls.size = B.ml)
    (hf : B'.rm.frames + 1 ≤ B.rm.frames) (hl : W + (B'.ml + 11) + B'.rm.locals ≤ B.rm.locals) {ce' sl' : Nat} (hce : ce + B'.rm.cells = ce') (hsl : sl + B'.rm.slots = sl') (hc : ce' ≤ B.rm.cells) (hs : sl' ≤ B.rm.slots)
    (r : ∀ v h' σ', (∀ x, σ x → σ' x) → Q' v h' σ' → Go l Z a0 EL n0 kn B D Q h' σ' ce' sl' (pc + 3) Ls (push v rest)) : Go l Z a0 EL n0 kn B D Q h σ ce sl pc Ls st := by
  subst hce hsl
  exact called W hM w4 w3 hf hl hc hs (fun T vm0 locs X h1 h4 h5 ok {Pre Pst} hB hpre => by
    obtain ⟨cq, kq, qa, qb, qc⟩ := isOf (s := D.s.setVm vm0) h4 h1 E
    exact X.virtualBackS ok.1 (s := D.s.setVm vm0) (C := C) h5 (mv (s := D.s.setVm vm0) h4 w1) (mv (s := D.s.setVm vm0) h4 w2) (nf vm0 h4) (mv (s := D.s.setVm vm0) h4 w5) (mv (s := D.s.setVm vm0) h4 w6) hy hB qa qc (g := mkF D.m pc Ls st) rfl (hsz.trans ok.2.2.1.symm) (Steps.refl _) (argsL := argsL) (rest := rest) hlen hst (by show 2 * 0 + _ ≤ _; rw [hW]; omega) (Jvm.hb ok.2.1 hd) hpre) r
/-- Object.<init> -/
theorem initObj (pc : Nat) {ix : Nat} (hd : decode B.bs pc = .ok (.invokespecial ix, 3)) (w1 : (Jvm.Cond.methodLink B.y.cls ix Lib.objectInit).before a0 Z = true) (w2 : (Jvm.Cond.instanceMethod Lib.objectInit).before a0 Z = true) (w3 : (Jvm.Cond.code Lib.objectInit ⟨#[0xb1]⟩ 1 none).before a0 Z = true) (W : Nat) (hW : (st.map fun v => v.category).sum = W) (hsz : Ls.size = B.ml) (hf : 1 ≤ B.rm.frames) (hl : W + 12 ≤ B.rm.locals)
    (r : Go l Z a0 EL n0 kn B D Q h σ ce sl (pc + 3) Ls st) : Go l Z a0 EL n0 kn B D Q h σ ce sl pc Ls (.ref a :: st) := by
  intro ok ew T vm0 I
  obtain ⟨k0, locs, X, h1, h2, h3, h4, h5, h6, h7, h8, h9, h10⟩ := I
  obtain ⟨T', X', e', s'⟩ := initO X ok.1 (s := D.s.setVm vm0) h4 h5 w1 w2 w3 h1 (g := mkF D.m pc Ls (.ref a :: st)) rfl (hsz.trans ok.2.2.1.symm) rfl (Jvm.hb ok.2.1 hd) hf (W := W) (by show 2 * 0 + _ ≤ _; rw [hW]; omega) hl
  obtain ⟨s2, o, q, rest⟩ := r ok ew T' vm0 ⟨k0, locs, X', e', h2, h3, h4, h5, h6, h7, h8, h9, h10⟩
  exact ⟨s2, o, s' _ q, rest⟩
end Calls
end Jvm.Road
namespace Jvm.Road
open Jvm Jvm.ClassFile Sem Op Lib Jvm.Free Jvm.Stand Jvm.LawKit Jvm.RoadKit Bundle
theorem n32 {i : Nat} (h : i < 2147483648) : i.toInt32.toInt = (i : Int) := len_toInt h
theorem succ32 (i : Nat) : i.toInt32 + 1 = (i + 1).toInt32 := (Int32.ofNat_add i 1).symm
theorem add32n (i j : Nat) : i.toInt32 + j.toInt32 = (i + j).toInt32 := (Int32.ofNat_add i j).symm
theorem lt32 {i j : Nat} (hi : i < 2147483648) (hj : j < 2147483648) : i.toInt32 < j.toInt32 ↔ i < j := by
  rw [Int32.lt_iff_toInt_lt, n32 hi, n32 hj]; omega
theorem eq32 {i j : Nat} (hi : i < 2147483648) (hj : j < 2147483648) : i.toInt32 = j.toInt32 ↔ i = j := by
  rw [← Int32.toInt_inj, n32 hi, n32 hj]; omega
/-- a slot that an int may be stored in -/
def W1 (w : Slot) : Prop := w = .unset ∨ ∃ v, w = .val (.int v)
theorem nar_byte (x : Int32) : nar .byte (Int8.toInt32 (Int32.toInt8 x)) = Int8.toInt32 (Int32.toInt8 x) := by simp [nar]
theorem nar_chr (x : Int32) : nar .char (chr x) = chr x := by simp only [nar, chr, UInt32.toUInt32_toInt32, UInt16.toUInt16_toUInt32]
theorem set_mid {α β : Type} (f : α → β) (cs : List α) (z : β) (k r : Nat) (hk : k < cs.length) : ((cs.take k).map f ++ List.replicate (r + 1) z).set k (f cs[k]) = (cs.take (k + 1)).map f ++ List.replicate r z := by
  have hl : ((cs.take k).map f).length = k := by simp; omega
  rw [List.set_append, if_neg (by omega), hl, Nat.sub_self, List.replicate_succ, List.set_cons_zero, List.take_succ_eq_append_getElem hk, List.map_append]
  simp
end Jvm.Road
namespace Jvm.Road
open Jvm Jvm.ClassFile Sem Op Lib Jvm.Free Jvm.Stand Jvm.LawKit Jvm.RoadKit Bundle
theorem narRef {t : FieldType} {v : Value} (ht : t.isReference = true) (hv : v.isRef = true) : narrow t v = v := by
  rcases ref_cases hv with rfl | ⟨_, rfl⟩ <;> cases t <;> first | rfl | (cases ht; done)
theorem fitRef {t : FieldType} {v : Value} (ht : t.isReference = true) (hv : v.isRef = true) : fits t v = true := by
  rcases ref_cases hv with rfl | ⟨_, rfl⟩ <;> cases t <;> first | rfl | (cases ht; done)
theorem and255 (x : Int32) : 0 ≤ (chr (x &&& 255)).toInt ∧ (chr (x &&& 255)).toInt < 256 := by
  rw [show chr (x &&& 255) = x &&& 255 from i2c_mask x]
  have h1 : (x &&& 255).toInt = ((x.toBitVec &&& 255#32).toInt) := rfl
  have h2 : (x.toBitVec &&& 255#32).toNat ≤ 255 := by rw [BitVec.toNat_and]; exact Nat.and_le_right
  have h3 : (x.toBitVec &&& 255#32).toInt = ((x.toBitVec &&& 255#32).toNat : Int) := BitVec.toInt_eq_toNat_of_lt (by omega)
  rw [h1, h3]; omega
end Jvm.Road
namespace Jvm.Road
open Jvm Jvm.ClassFile Sem Op Lib Jvm.Free Jvm.Stand Jvm.LawKit Jvm.RoadKit Bundle
theorem nameI {l : Launch} {Z : State} {a0 : Array Value} {EL : List (String × Nat)} {n0 : Nat} {kn : Bool} {B : Bdy} {D : Dyn} {Q : Post} {h : Heap} {σ : Addr → Prop} {ce sl : Nat} {Ls : Array Slot} {st : List Value} {pc : Nat} {x : Int32}
    (r : ∀ z, z = x → Go l Z a0 EL n0 kn B D Q h σ ce sl pc Ls (.int z :: st)) : Go l Z a0 EL n0 kn B D Q h σ ce sl pc Ls (.int x :: st) := r x rfl
theorem nameJ {l : Launch} {Z : State} {a0 : Array Value} {EL : List (String × Nat)} {n0 : Nat} {kn : Bool} {B : Bdy} {D : Dyn} {Q : Post} {h : Heap} {σ : Addr → Prop} {ce sl : Nat} {Ls : Array Slot} {st : List Value} {pc : Nat} {x : Int64}
    (r : ∀ z, z = x → Go l Z a0 EL n0 kn B D Q h σ ce sl pc Ls (.long z :: st)) : Go l Z a0 EL n0 kn B D Q h σ ce sl pc Ls (.long x :: st) := r x rfl
theorem and3 (x : Int32) : x &&& 3 = 0 ∨ x &&& 3 = 1 ∨ x &&& 3 = 2 ∨ x &&& 3 = 3 := by
  have h1 : (x &&& 3).toInt = ((x.toBitVec &&& 3#32).toInt) := rfl
  have h2 : (x.toBitVec &&& 3#32).toNat ≤ 3 := by rw [BitVec.toNat_and]; exact Nat.and_le_right
  have h3 : (x.toBitVec &&& 3#32).toInt = ((x.toBitVec &&& 3#32).toNat : Int) := BitVec.toInt_eq_toNat_of_lt (by omega)
  have h4 : (x &&& 3).toInt = 0 ∨ (x &&& 3).toInt = 1 ∨ (x &&& 3).toInt = 2 ∨ (x &&& 3).toInt = 3 := by rw [h1, h3]; omega
  rcases h4 with h | h | h | h
  · exact Or.inl (Int32.toInt_inj.mp h)
  · exact Or.inr (Or.inl (Int32.toInt_inj.mp h))
  · exact Or.inr (Or.inr (Or.inl (Int32.toInt_inj.mp h)))
  · exact Or.inr (Or.inr (Or.inr (Int32.toInt_inj.mp h)))
/-- a slot that a reference may be stored in -/
def W2 (w : Slot) : Prop := w = .unset ∨ ∃ v, w = .val (.ref v)
end Jvm.Road
namespace Jvm.Road
open Jvm Jvm.ClassFile Sem Op Lib Jvm.Free Jvm.Stand Jvm.LawKit Jvm.RoadKit Bundle
theorem shr0 (x : Int32) : x >>> ((0 : Int32) &&& 31) = x := by
  apply Int32.toBitVec_inj.mp; simp [Int32.toBitVec_shiftRight]
theorem lat_nat {c : Int32} (h : 0 ≤ c.toInt ∧ c.toInt < 256) : ∃ i : Fin 256, c = Int32.ofInt (i.1 : Int) := by
  refine ⟨⟨c.toInt.toNat, by omega⟩, ?_⟩
  apply Int32.toInt_inj.mp
  show c.toInt = (Int32.ofInt ((c.toInt.toNat : Nat) : Int)).toInt
  rw [Int.toNat_of_nonneg h.1, Int32.ofInt_toInt]
theorem byte_back {c : Int32} (h : 0 ≤ c.toInt ∧ c.toInt < 256) : nar .char (chr (Int8.toInt32 (Int32.toInt8 c) &&& 255)) = c := by
  obtain ⟨i, rfl⟩ := lat_nat h
  exact (by decide +kernel : ∀ i : Fin 256, nar .char (chr (Int8.toInt32 (Int32.toInt8 (Int32.ofInt (i.1 : Int))) &&& 255)) = Int32.ofInt (i.1 : Int)) i
theorem nar_lat {c : Int32} (h : 0 ≤ c.toInt ∧ c.toInt < 256) : nar .char c = c := by
  obtain ⟨i, rfl⟩ := lat_nat h
  exact (by decide +kernel : ∀ i : Fin 256, nar .char (Int32.ofInt (i.1 : Int)) = Int32.ofInt (i.1 : Int)) i
end Jvm.Road
namespace Jvm.Road
open Jvm Jvm.ClassFile Sem Op Lib Jvm.Free Jvm.Stand Jvm.LawKit Jvm.RoadKit Bundle
/-- an int's 32 bits as a number -/
def u32 (x : Int32) : Nat := x.toBitVec.toNat
theorem u32_lt (x : Int32) : u32 x < 4294967296 := x.toBitVec.isLt
theorem u32_inj {x y : Int32} (h : u32 x = u32 y) : x = y := Int32.toBitVec_inj.mp (BitVec.eq_of_toNat_eq h)
theorem toInt_u32 {x : Int32} (h : u32 x < 2147483648) : x.toInt = (u32 x : Int) := by
  show x.toBitVec.toInt = _
  exact BitVec.toInt_eq_toNat_of_lt (by show 2 * u32 x < 2 ^ 32; omega)
theorem u32_and (x y : Int32) : u32 (x &&& y) = u32 x &&& u32 y := BitVec.toNat_and ..
theorem u32_chr (x : Int32) : u32 (chr x) = u32 x % 65536 := by
  show ((x.toBitVec.setWidth 16).setWidth 32).toNat = _
  rw [BitVec.toNat_setWidth, BitVec.toNat_setWidth]
  show x.toBitVec.toNat % 65536 % 4294967296 = _
  show _ = x.toBitVec.toNat % 65536
  omega
theorem u32_ushr (x y : Int32) : u32 (XT.ushr x y) = u32 x >>> (u32 y % 32) := by
  show ((x.toBitVec >>> ((y &&& 31).toBitVec.umod 32#32)).toNat) = _
  have h : ((y &&& 31).toBitVec.umod 32#32).toNat = u32 y % 32 := by
    show (BitVec.umod (y.toBitVec &&& 31#32) 32#32).toNat = _
    rw [show (BitVec.umod (y.toBitVec &&& 31#32) 32#32) = (y.toBitVec &&& 31#32) % 32#32 from rfl, BitVec.toNat_umod, BitVec.toNat_and]
    show (u32 y &&& 31) % 32 = _
    rw [show (31 : Nat) = 2 ^ 5 - 1 from rfl, Nat.and_two_pow_sub_one_eq_mod]
    omega
  rw [← h]
  exact BitVec.toNat_ushiftRight ..
theorem and_mask (x : Nat) (k : Nat) : x &&& (2 ^ k - 1) = x % 2 ^ k := Nat.and_two_pow_sub_one_eq_mod x k
theorem u32_and255 (x : Int32) : u32 (x &&& 255) = u32 x % 256 := by rw [u32_and]; exact and_mask _ 8
theorem u32_and7 (x : Int32) : u32 (x &&& 7) = u32 x % 8 := by rw [u32_and]; exact and_mask _ 3
theorem u32_and3 (x : Int32) : u32 (x &&& 3) = u32 x % 4 := by rw [u32_and]; exact and_mask _ 2
theorem u32_and1 (x : Int32) : u32 (x &&& 1) = u32 x % 2 := by rw [u32_and]; exact and_mask _ 1
theorem chr_id {x : Int32} (h : u32 x < 65536) : chr x = x := u32_inj (by rw [u32_chr]; omega)
end Jvm.Road
namespace Jvm.Road
open Jvm Jvm.ClassFile Sem Op Lib Jvm.Free Jvm.Stand Jvm.LawKit Jvm.RoadKit Bundle
/-- the byte of a char, as an int -/
def bf (c : Int32) : Int32 := Int8.toInt32 (Int32.toInt8 c)
theorem bf_inj {c d : Int32} (hc : 0 ≤ c.toInt ∧ c.toInt < 256) (hd : 0 ≤ d.toInt ∧ d.toInt < 256) (h : bf c = bf d) : c = d := by
  rw [← byte_back hc, ← byte_back hd]
  show nar .char (chr (bf c &&& 255)) = nar .char (chr (bf d &&& 255))
  rw [h]
theorem bfs_inj : ∀ {cs ds : List Int32}, (∀ c ∈ cs, 0 ≤ c.toInt ∧ c.toInt < 256) → (∀ c ∈ ds, 0 ≤ c.toInt ∧ c.toInt < 256) → cs.map bf = ds.map bf → cs = ds
  | [], [], _, _, _ => rfl
  | [], d :: ds, _, _, h => by simp at h
  | c :: cs, [], _, _, h => by simp at h
  | c :: cs, d :: ds, h1, h2, h => by
    simp only [List.map_cons, List.cons.injEq] at h
    rw [bf_inj (h1 _ (by simp)) (h2 _ (by simp)) h.1, bfs_inj (fun x hx => h1 x (by simp [hx])) (fun x hx => h2 x (by simp [hx])) h.2]
theorem byts (cs : List Int32) : cs.map byt = (cs.map bf).map Value.int := by rw [List.map_map]; rfl
theorem ints_inj : ∀ {xs ys : List Int32}, xs.map Value.int = ys.map Value.int → xs = ys
  | [], [], _ => rfl
  | [], d :: ds, h => by simp at h
  | c :: cs, [], h => by simp at h
  | c :: cs, d :: ds, h => by
    simp only [List.map_cons, List.cons.injEq, Value.int.injEq] at h
    rw [h.1, ints_inj h.2]
theorem Str.uniq {Z : State} {h : Heap} {a b b' : Addr} {cs ds : List Int32} (S : Str Z h a b cs) (S' : Str Z h a b' ds) : cs = ds := by
  have e := Value.ref.inj (Fld.uniq S.2.2.1 S'.2.2.1)
  subst e
  have q := Ary.uniq S.2.2.2.1 S'.2.2.2.1
  rw [byts, byts] at q
  exact bfs_inj S.2.2.2.2 S'.2.2.2.2 (ints_inj q)
theorem take_ext {xs ys : List Int32} {k : Nat} (hk : k < xs.length) (hk' : k < ys.length) (h : xs.take k = ys.take k) (e : xs[k] = ys[k]) : xs.take (k + 1) = ys.take (k + 1) := by
  rw [List.take_succ_eq_append_getElem hk, List.take_succ_eq_append_getElem hk', h, e]
theorem u32_mask31 (x : Int32) : u32 (x &&& 2147483647) = u32 x % 2147483648 := by rw [u32_and]; exact and_mask _ 31
theorem rem_pos {x y : Int32} {n : Nat} (hx : u32 x < 2147483648) (hy : y.toInt = (n : Int)) (hn : 0 < n) : (x % y).toInt = ((u32 x % n : Nat) : Int) := by
  rw [Int32.toInt_mod, toInt_u32 hx, hy]
  rfl
theorem small_of {x : Int32} {n : Nat} {k : Nat} (h : x.toInt = ((k % n : Nat) : Int)) (hn : 0 < n) : ∃ i : Fin n, x = Int32.ofInt (i.1 : Int) := by
  refine ⟨⟨k % n, Nat.mod_lt _ hn⟩, ?_⟩
  have := congrArg Int32.ofInt h
  rwa [Int32.ofInt_toInt] at this
end Jvm.Road
namespace Jvm.Road
open Jvm Jvm.ClassFile Sem Op Lib Jvm.Free Jvm.Stand Jvm.LawKit Jvm.RoadKit Bundle Jvm.Free.Exc
section Exc
variable {l : Launch} {Z : State} {a0 : Array Value} {EL : List (String × Nat)} {n0 : Nat} {kn : Bool} {B : Bdy} {D : Dyn} {Q : Post} {h : Heap} {σ : Addr → Prop} {ce sl : Nat} {Ls : Array Slot} {st : List Value} {a : Addr}
/-- super(msg) of a Throwable, down a chain of constructors that only pass it on -/
theorem excInit (pc : Nat) {ix n : Nat} {rc : String} {links : List Link} {msg : Value} (W : Nat) (hd : decode B.bs pc = .ok (.invokespecial ix, 3)) (hok : linksOk 1 links = true)
    (w1 : (Jvm.Cond.methodLink B.y.cls ix (ctor 1 (headName links))).before a0 Z = true) (w2 : (Jvm.Cond.instanceMethod (ctor 1 (headName links))).before a0 Z = true) (wT : (chainTab 1 rc links).before a0 Z = true) (wi : (Jvm.Cond.instantiable rc n).before a0 Z = true) (r2 : ∀ d ∈ twoRefs, d.before a0 Z = true)
    (hl : l.stackTraces = true) (hkn : kn = true) (hO : Old Z n0 D.s.heap) (E : Exa Z h a rc) (N : Unt h a) (F1 : Fld Z h a tN "backtrace" obD .null) (F2 : Fld Z h a tN "detailMessage" msgD .null) (hmsg : msg.isRef = true) (hσ : σ a)
    (hW : (st.map fun v => v.category).sum = W) (hsz : Ls.size = B.ml) (hf : 4 + links.length ≤ B.rm.frames) (hlo : W + (56 + 14 * links.length) ≤ B.rm.locals) {ce' sl' : Nat} (hce : ce + 1 = ce') (hsl : sl + 2752 = sl') (hc : ce' ≤ B.rm.cells) (hs : sl' ≤ B.rm.slots)
    (r : ∀ h', Kp Z h h' a → Keep h h' [a] → Exa Z h' a rc → Unt h' a → Fld Z h' a tN "detailMessage" msgD msg → Fld Z h' a tN "cause" thD (.ref a) → Go l Z a0 EL n0 kn B D Q h' σ ce' sl' (pc + 3) Ls st) : Go l Z a0 EL n0 kn B D Q h σ ce sl pc Ls (msg :: .ref a :: st) := by
  subst hce hsl
  intro ok ew T vm0 I
  obtain ⟨k0, locs, X, h1, h2, h3, h4, h5, h6, h7, h8, h9, h10⟩ := I
  obtain ⟨T', h', X', e', K, E', N', M', C', -, s'⟩ := excL1 X ok.1 hl (s := D.s.setVm vm0) h4 h5 hok w1 w2 wT wi r2 (ThS.start.ext hO.2) (ThS.start.ext h8.2) (h10 hkn).1 (h10 hkn).2 h1 E N F1 F2 hmsg (g := mkF D.m pc Ls (msg :: .ref a :: st)) rfl (hsz.trans ok.2.2.1.symm) (rest := st) rfl (Jvm.hb ok.2.1 hd) hf (by show 2 * 0 + _ + _ ≤ _; rw [hW]; omega) hc hs
  have ha := h9 a hσ
  have K2 : Keep h h' [a] := keep_of_kp K
  have hsf : ∀ x ∈ [a], Safe Z EL vm0 h x := fun x hx => by cases List.mem_singleton.mp hx; exact ha.1
  obtain ⟨s2, o, q, rest⟩ := r h' K K2 E' N' M' C' ok ew T' vm0
    ⟨k0, _, X', e', h2, Nat.le_trans h3 K2.1, h4, h5, h6.trans (CHr.keep K2 hsf h6.1), Fr.six h7 ha.2.1, h8.keep K2 (fun x hx => by cases List.mem_singleton.mp hx; exact ha.2.1), fun x hx => ⟨Safe.keep K2 hsf h6.1 (h9 x hx).1, (h9 x hx).2.1, Nat.lt_of_lt_of_le (h9 x hx).2.2 K2.1⟩, h10⟩
  exact ⟨s2, o, s' _ q, rest⟩
end Exc
section Up
variable {l : Launch} {Z : State} {a0 : Array Value} {EL : List (String × Nat)} {n0 : Nat} {kn : Bool} {B B' : Bdy} {D : Dyn} {Q Q' : Post} {h : Heap} {σ : Addr → Prop} {ce sl : Nat} {Ls : Array Slot} {st : List Value} {a : Addr}
/-- invokevirtual whose entry names the method by a subclass of the one that declares it -/
theorem callU (pc : Nat) {ix : Nat} {y : MethodName} {argsL rest : List Value} (C owner : String) (W : Nat) (hd : decode B.bs pc = .ok (.invokevirtual ix, 3)) (w1 : (Jvm.Cond.methodLink B.y.cls ix y).before a0 Z = true) (w2 : (Jvm.Cond.sameMethod y.cls owner y.name y.desc).before a0 Z = true) (w2' : (Jvm.Cond.declares ⟨owner, y.name, y.desc⟩).before a0 Z = true) (hy : owner ≠ "java/lang/invoke/MethodHandle" ∧ owner ≠ "java/lang/invoke/VarHandle") (w5 : (Jvm.Cond.selects C y B'.y).before a0 Z = true) (w6 : (Jvm.Cond.instanceMethod B'.y).before a0 Z = true) (w3 : (Jvm.Cond.initialized B'.y.cls).before a0 Z = true) (w4 : (Jvm.Cond.code B'.y B'.bs B'.ml B'.rt).before a0 Z = true)
    (E : Exa Z h a C) (hM : Con l Z EL n0 kn B' [] σ (.ref a :: argsL).toArray h Q') (hlen : ∀ sig, parseMethodDescriptor y.desc = some sig → argsL.length = sig.parameters.length) (hst : st = argsL.reverse ++ .ref a :: rest) (hW : (rest.map fun v => v.category).sum = W) (hsz : Ls.size = B.ml)
    (hf : B'.rm.frames + 1 ≤ B.rm.frames) (hl : W + (B'.ml + 11) + B'.rm.locals ≤ B.rm.locals) {ce' sl' : Nat} (hce : ce + B'.rm.cells = ce') (hsl : sl + B'.rm.slots = sl') (hc : ce' ≤ B.rm.cells) (hs : sl' ≤ B.rm.slots)
    (r : ∀ v h' σ', (∀ x, σ x → σ' x) → Q' v h' σ' → Go l Z a0 EL n0 kn B D Q h' σ' ce' sl' (pc + 3) Ls (push v rest)) : Go l Z a0 EL n0 kn B D Q h σ ce sl pc Ls st := by
  subst hce hsl
  exact called W hM w4 w3 hf hl hc hs (fun T vm0 locs X h1 h4 h5 ok {Pre Pst} hB hpre => by
    obtain ⟨cq, kq, qa, qb, qc⟩ := isOf (s := D.s.setVm vm0) h4 h1 E
    exact X.virtualBackUpS ok.1 (s := D.s.setVm vm0) (C := C) h5 (mv (s := D.s.setVm vm0) h4 w1) (mv (s := D.s.setVm vm0) h4 w2) (mv (s := D.s.setVm vm0) h4 w2') hy (mv (s := D.s.setVm vm0) h4 w5) (mv (s := D.s.setVm vm0) h4 w6) hB qa qc (g := mkF D.m pc Ls st) rfl (hsz.trans ok.2.2.1.symm) (Steps.refl _) (argsL := argsL) (rest := rest) hlen hst (by show 2 * 0 + _ ≤ _; rw [hW]; omega) (Jvm.hb ok.2.1 hd) hpre) r
end Up
end Jvm.Road
namespace Jvm.Road
open Jvm Jvm.ClassFile Sem Op Lib Jvm.Free Jvm.Stand Jvm.LawKit Jvm.RoadKit Bundle
section Start
variable {Z : State} {a : Addr} {args : Array Value} {t b : Term} {ty : FieldType}
theorem eq_int_of {n : Int32} (h : (Cond.eq t (Term.int n)).value args Z none Z [] = some true) : t.eval args Z none [] Z = some (.int n) := by
  obtain ⟨x, y, q1, q2, -, k2⟩ := cmp_v (Or.inl h)
  cases q2
  obtain ⟨z, rfl⟩ := k2
  have := gotT (Cond.eq_ints q1 (Term.int_eval n)) h
  rw [← this]; exact q1
theorem eq_ref_of {q : Addr} (h : (Cond.eq t b).value args Z none Z [] = some true) (hb : b.eval args Z none [] Z = some (.ref q)) : t.eval args Z none [] Z = some (.ref q) := by
  obtain ⟨x, y, q1, q2, -, k2⟩ := cmp_v (Or.inl h)
  cases hb.symm.trans q2
  have := gotT (eq_R q1 hb k2.2 rfl) h
  rw [← this]; exact q1
theorem len_lt {v : Value} (h : (Term.length t).eval args Z none [] Z = some v) (ev : t.eval args Z none [] Z = some (.ref a)) : ∃ c, Z.arrayAt? a = some c ∧ c.slots.size < 2 ^ 31 ∧ v = .int c.slots.size.toInt32 := by
  obtain ⟨x, c, e1, e2, e3⟩ := Term.length_spec h
  cases ev.symm.trans e1
  refine ⟨c, e2, ?_, e3⟩
  by_cases q : c.slots.size < 2 ^ 31
  · exact q
  · simp [Term.eval, ev, e2, q] at h
theorem Ary.start {n : Int32} {vs : List Value} (ev : t.eval args Z none [] Z = some (.ref a)) (hx : (Cond.arrayOf t ty).value args Z none Z [] = some true)
    (hl : (Cond.eq (Term.length t) (Term.int n)).value args Z none Z [] = some true) (hn : n.toInt = vs.length)
    (he : ∀ i, i < vs.length → ∃ j : Int32, j.toInt = (i : Int) ∧ (Term.elem t (Term.int j)).eval args Z none [] Z = vs[i]?) (hf : ∀ v ∈ vs, fits ty v = true) : Ary Z Z.heap a ty vs := by
  obtain ⟨c, A⟩ := Arr.start ev hx
  obtain ⟨c', e1, e2, e3⟩ := len_lt (eq_int_of hl) ev
  have e4 : Z.heap[a]? = some c' := (arrayAt_spec e1).1
  cases A.1.symm.trans e4
  have e5 : c.slots.size = vs.length := by
    have : n.toInt = (c.slots.size : Int) := by
      injection e3 with q; rw [q]; exact len_toInt e2
    omega
  refine ⟨c, A, ?_, by omega, hf⟩
  apply List.ext_getElem?
  intro i
  by_cases hi : i < vs.length
  · obtain ⟨j, j1, j2⟩ := he i hi
    rw [List.getElem?_eq_getElem hi] at j2 ⊢
    have := (elem_in j2 ev (Term.int_eval j) A.1).2
    rw [(ix_of j1).2] at this
    rw [Array.getElem?_toList]; exact this
  · rw [List.getElem?_eq_none (Nat.le_of_not_lt hi), List.getElem?_eq_none (by rw [Array.length_toList, e5]; exact Nat.le_of_not_lt hi)]
end Start
end Jvm.Road
namespace Jvm.Road
open Jvm Jvm.ClassFile Sem Op Lib Jvm.Free Jvm.Stand Jvm.LawKit Jvm.RoadKit Bundle
section Copy
variable {l : Launch} {Z : State} {a0 : Array Value} {EL : List (String × Nat)} {n0 : Nat} {kn : Bool} {B : Bdy} {D : Dyn} {Q : Post} {h : Heap} {σ : Addr → Prop} {ce sl : Nat} {Ls : Array Slot} {st : List Value} {a b : Addr}
theorem arv_of {ty : FieldType} {vs : List Value} (A : Ary Z h a ty vs) : ∃ k, Arv Z h a k ty (Nat.toInt32 vs.length) vs .null ∧ (Nat.toInt32 vs.length).toNatClampNeg = vs.length := by
  obtain ⟨c, A, e, q, f⟩ := A
  have e1 : (Nat.toInt32 vs.length).toInt = vs.length := len_toInt q
  have e2 := ix_of e1
  have e3 : c.slots.size = vs.length := by rw [← Array.length_toList, e]
  refine ⟨_, ⟨c, A, rfl, e3.trans e2.2.symm, e2.1, fun i hi => ?_, fun i hi => ?_⟩, e2.2⟩
  · rw [← Array.getElem?_toList, e, List.getElem?_eq_getElem (by omega), List.getD_eq_getElem?_getD, List.getElem?_eq_getElem (by omega)]; rfl
  · rw [List.getD_eq_getElem?_getD, List.getElem?_eq_getElem (by omega)]; exact f _ (List.getElem_mem _)
theorem stretch_eq (vs : List Value) (i n : Nat) (h : i + n ≤ vs.length) : (List.range n).map (fun k => vs.getD (i + k) .null) = (vs.drop i).take n := by
  apply List.ext_getElem?
  intro k
  by_cases hk : k < n
  · rw [List.getElem?_map, List.getElem?_range hk, List.getElem?_take_of_lt hk, List.getElem?_drop, List.getElem?_eq_getElem (by omega)]
    simp [List.getD_eq_getElem?_getD, List.getElem?_eq_getElem (show i + k < vs.length by omega)]
  · rw [List.getElem?_eq_none (by simp; omega), List.getElem?_eq_none (by simp; omega)]
theorem acopy (pc : Nat) {ix : Nat} {ty : FieldType} {vs vd : List Value} {sp dp nn : Int32} (i j n W : Nat) (hd : decode B.bs pc = .ok (.invokestatic ix, 3))
    (w1 : (Jvm.Cond.methodLink B.y.cls ix Jvm.Stand.acN).before a0 Z = true) (w2 : (Jvm.Cond.native Jvm.Stand.acN).before a0 Z = true) (w3 : (Jvm.Cond.static Jvm.Stand.acN).before a0 Z = true) (w4 : (Jvm.Cond.initialized "java/lang/System").before a0 Z = true)
    (A : Ary Z h a ty vs) (Ab : Ary Z h b ty vd) (hr : refKind ty = false) (h1 : sp.toInt = (i : Int)) (h2 : dp.toInt = (j : Int)) (h3 : nn.toInt = (n : Int)) (h4 : i + n ≤ vs.length) (h5 : j + n ≤ vd.length) (hσ : σ b)
    (hW : (st.map fun v => v.category).sum = W) (hsz : Ls.size = B.ml) (hf : 1 ≤ B.rm.frames) (hl : W + 18 ≤ B.rm.locals)
    (r : ∀ h', Keep h h' [b] → Ary Z h' b ty (vd.take j ++ (vs.drop i).take n ++ vd.drop (j + n)) → Go l Z a0 EL n0 kn B D Q h' σ ce sl (pc + 3) Ls st) :
    Go l Z a0 EL n0 kn B D Q h σ ce sl pc Ls (.int nn :: .int dp :: .ref b :: .int sp :: .ref a :: st) := by
  intro ok ew T vm0 I
  obtain ⟨k0, locs, X, g1, g2, g3, g4, g5, g6, g7, g8, g9, g10⟩ := I
  obtain ⟨k1, A1, z1⟩ := arv_of A
  obtain ⟨k2, A2, z2⟩ := arv_of Ab
  have ha := g9 b hσ
  obtain ⟨s1, s1'⟩ := ix_of h1
  obtain ⟨s2, s2'⟩ := ix_of h2
  obtain ⟨s3, s3'⟩ := ix_of h3
  obtain ⟨T', h', L, X', e', N, K, A3, s'⟩ := cpA X ok.1 (s := D.s.setVm vm0) g4 g5 w1 w2 w3 w4 g1 A1 A2 (Or.inl ⟨rfl, hr⟩) (sp := sp) (dp := dp) (nn := nn) s1 s2 s3 (by rw [s1', s3', z1]; exact h4) (by rw [s2', s3', z2]; exact h5) rfl (by rw [s2', s3']; exact h5) g7 ha.2.1
    (g := mkF D.m pc Ls (.int nn :: .int dp :: .ref b :: .int sp :: .ref a :: st)) rfl (hsz.trans ok.2.2.1.symm) rfl (Jvm.hb ok.2.1 hd) hf (W := W) (by show 2 * 0 + _ ≤ _; rw [hW]; omega) (by show W + 18 ≤ _; exact hl)
  rw [s1', s2', s3', stretch_eq _ _ _ h4] at A3
  have hlen : (vd.take j ++ (vs.drop i).take n ++ vd.drop (j + n)).length = vd.length := by
    simp only [List.length_append, List.length_take, List.length_drop]; omega
  have hs : ∀ x ∈ [b], Safe Z EL vm0 h x := fun x hx => by cases List.mem_singleton.mp hx; exact ha.1
  obtain ⟨s2, o, q, rest⟩ := r h' K (Ary.of_arv A3 (by rw [z2, hlen])) ok ew T' vm0 ⟨k0, _, X', e', g2, Nat.le_trans g3 K.1, g4, g5, g6.trans (CHr.keep K hs g6.1), N, g8.keep K (fun x hx => by cases List.mem_singleton.mp hx; exact ha.2.1),
    fun x hx => ⟨Safe.keep K hs g6.1 (g9 x hx).1, (g9 x hx).2.1, Nat.lt_of_lt_of_le (g9 x hx).2.2 K.1⟩, g10⟩
  exact ⟨s2, o, s' _ q, rest⟩
end Copy
theorem shl0 (x : Int32) : x <<< ((0 : Int32) &&& 31) = x := by
  apply Int32.toBitVec_inj.mp; simp [Int32.toBitVec_shiftLeft]
theorem sub32n {i j : Nat} (h : j ≤ i) : i.toInt32 - j.toInt32 = (i - j).toInt32 := by
  have e : (i - j).toInt32 + j.toInt32 = i.toInt32 := by rw [add32n, Nat.sub_add_cancel h]
  rw [← e, Int32.add_sub_cancel]
theorem gsub {m N : Nat} (hm : m < 2147483648) (hN : N < 2147483648) : (0 : Int32) < m.toInt32 - N.toInt32 ↔ N < m := by
  by_cases h : N ≤ m
  · rw [sub32n h, show (0 : Int32) = (0 : Nat).toInt32 from rfl, lt32 (by omega) (by omega)]; omega
  · have e : m.toInt32 - N.toInt32 = -((N - m).toInt32) := by rw [← sub32n (show m ≤ N by omega), Int32.neg_sub]
    rw [e, Int32.lt_iff_toInt_lt]
    have : (-((N - m).toInt32)).toInt = -((N - m : Nat) : Int) := by
      rw [Int32.toInt_neg, n32 (by omega)]
      rw [Int.bmod_eq_of_le] <;> omega
    rw [this]
    have : (0 : Int32).toInt = 0 := rfl
    omega
abbrev SB : String := "java/lang/StringBuilder"
abbrev AB : String := "java/lang/AbstractStringBuilder"
/-- the StringBuilder at a holds these chars; its bytes at b, of which there are N -/
def Sb (Z : State) (h : Heap) (a b : Addr) (cs : List Int32) (N : Nat) : Prop := Exa Z h a SB ∧ Fld Z h a AB "coder" "B" (.int 0) ∧ Fld Z h a AB "value" "[B" (.ref b) ∧ Fld Z h a AB "count" "I" (.int (Nat.toInt32 cs.length)) ∧ (∃ r : List Value, Ary Z h b .byte (cs.map byt ++ r) ∧ cs.length + r.length = N) ∧ (∀ c ∈ cs, 0 ≤ c.toInt ∧ c.toInt < 256)
section Builder
variable {Z : State} {h h' : Heap} {a b : Addr} {cs : List Int32} {N : Nat} {ws : List Addr}
theorem Sb.keep (F : Sb Z h a b cs N) (K : Keep h h' ws) (q : a ∉ ws) (q' : b ∉ ws) : Sb Z h' a b cs N := by
  obtain ⟨f1, f2, f3, f4, ⟨r, f5, f6⟩, f7⟩ := F
  exact ⟨f1.keep K, f2.keep K q, f3.keep K q, f4.keep K q, ⟨r, f5.keep K q', f6⟩, f7⟩
theorem Sb.lt (F : Sb Z h a b cs N) : a < h.size := F.1.lt
theorem Sb.ltb (F : Sb Z h a b cs N) : b < h.size := by obtain ⟨_, _, _, _, ⟨r, f5, -⟩, _⟩ := F; exact f5.lt
theorem Sb.le (F : Sb Z h a b cs N) : cs.length ≤ N := by obtain ⟨_, _, _, _, ⟨r, -, f6⟩, _⟩ := F; omega
theorem Sb.small (F : Sb Z h a b cs N) : N < 2147483648 := by obtain ⟨_, _, _, _, ⟨r, f5, f6⟩, _⟩ := F; have := f5.small; simp only [List.length_append, List.length_map] at this; omega
theorem put_str (cs ds : List Int32) (r : List Value) (hl : ds.length ≤ r.length) : (cs.map byt ++ r).take cs.length ++ ((ds.map byt).drop 0).take ds.length ++ (cs.map byt ++ r).drop (cs.length + ds.length) = (cs ++ ds).map byt ++ r.drop ds.length := by
  have e1 : (cs.map byt).length = cs.length := List.length_map _
  have e2 : (ds.map byt).length = ds.length := List.length_map _
  rw [List.take_append_of_le_length (by omega), List.take_of_length_le (by omega), List.drop_zero, List.take_of_length_le (by omega), List.map_append, ← e1, ← List.drop_drop, List.drop_left]
theorem put_chr (cs : List Int32) (x : Int32) (r : List Value) (hl : 1 ≤ r.length) : (cs.map byt ++ r).set cs.length (byt x) = (cs ++ [x]).map byt ++ r.drop 1 := by
  have e1 : (cs.map byt).length = cs.length := List.length_map _
  cases r with
  | nil => simp at hl
  | cons v r => rw [List.set_append_right _ _ (by omega), e1, Nat.sub_self]; simp
theorem keep1 (K : Keep h h' [a]) : Keep h h' [a, b] := ⟨K.1, fun x c q r => K.2.1 x c q (fun z => r (by cases List.mem_singleton.mp z; simp)), K.2.2⟩
theorem keep2 {h2 : Heap} (K : Keep h h' [b]) (K' : Keep h' h2 [a]) : Keep h h2 [a, b] :=
  Keep.trans (ws := [a, b]) ⟨K.1, fun x c q r => K.2.1 x c q (fun z => r (by cases List.mem_singleton.mp z; simp)), K.2.2⟩ K' (by simp)
theorem keep2' {h2 : Heap} (K : Keep h h' [a]) (K' : Keep h' h2 [b]) : Keep h h2 [a, b] :=
  Keep.trans (ws := [a, b]) ⟨K.1, fun x c q r => K.2.1 x c q (fun z => r (by cases List.mem_singleton.mp z; simp)), K.2.2⟩ K' (by simp)
end Builder
end Jvm.Road

namespace Jvm.Road
open Jvm Jvm.ClassFile Sem Op Lib Jvm.Free Jvm.Stand Jvm.LawKit Jvm.RoadKit Bundle
theorem keep_sub {h h' : Heap} {ws ws' : List Addr} (K : Keep h h' ws) (q : ∀ x ∈ ws, x ∈ ws') : Keep h h' ws' := ⟨K.1, fun x c e n => K.2.1 x c e (fun z => n (q x z)), K.2.2⟩
end Jvm.Road
namespace Jvm.Road
open Jvm Jvm.ClassFile Sem Op Lib Jvm.Free Jvm.Stand Jvm.LawKit Jvm.RoadKit Bundle
/-- a method's class is no interface, by another method of the same class -/
theorem notFace_sib {args : Array Value} {s : State} {C : String} {x y z : MethodName} (hsel : (Jvm.Cond.selects C x y).before args s = true) (e : z.cls = y.cls) : NotFace s z := fun r0 h0 => by
  obtain ⟨c2, r2, m2, q1, q2, q3, q4, kP, hkP, hkPi⟩ := Cond.selects_spec hsel
  have e1 := findClass_of_methodNamed h0
  have e2 := findClass_of_methodNamed q3
  rw [e] at e1
  have e3 := Option.some.inj (e1.symm.trans e2)
  exact ⟨kP, by rw [e3]; exact hkP, hkPi⟩
theorem same_of {args : Array Value} {s : State} {y : MethodName} (hi : (Jvm.Cond.instanceMethod y).before args s = true) (nf : NotFace s y) (hy : y.cls ≠ "java/lang/invoke/MethodHandle" ∧ y.cls ≠ "java/lang/invoke/VarHandle") : (Jvm.Cond.sameMethod y.cls y.cls y.name y.desc).before args s = true := by
  obtain ⟨mk, meth, hnamed, -⟩ := Cond.instanceMethod_spec hi
  have h1 := findClass_of_methodNamed hnamed
  have h2 := State.methodFound?_of_named hnamed hy
  obtain ⟨kr, hk, hni⟩ := nf _ hnamed
  simp [Cond.before, Cond.holds, Cond.value, h1, h2, hnamed, hk, hni]
section Calls2
variable {l : Launch} {Z : State} {a0 : Array Value} {EL : List (String × Nat)} {n0 : Nat} {kn : Bool} {B B' : Bdy} {D : Dyn} {Q Q' : Post} {h : Heap} {σ : Addr → Prop} {ce sl : Nat} {Ls : Array Slot} {st : List Value} {a : Addr}
/-- a private method by invokevirtual -/
theorem callP (pc : Nat) {ix : Nat} {argsL rest : List Value} (C : String) (W : Nat) (hd : decode B.bs pc = .ok (.invokevirtual ix, 3)) (w1 : (Jvm.Cond.methodLink B.y.cls ix B'.y).before a0 Z = true) (w2 : (Jvm.Cond.privateMethod B'.y).before a0 Z = true) (w5 : (Jvm.Cond.selects C B'.y B'.y).before a0 Z = true) (w6 : (Jvm.Cond.instanceMethod B'.y).before a0 Z = true) (w3 : (Jvm.Cond.initialized B'.y.cls).before a0 Z = true) (w4 : (Jvm.Cond.code B'.y B'.bs B'.ml B'.rt).before a0 Z = true) (hy : notMH B'.y)
    (E : Exa Z h a C) (hM : Con l Z EL n0 kn B' [] σ (.ref a :: argsL).toArray h Q') (hlen : ∀ sig, parseMethodDescriptor B'.y.desc = some sig → argsL.length = sig.parameters.length) (hst : st = argsL.reverse ++ .ref a :: rest) (hW : (rest.map fun v => v.category).sum = W) (hsz : Ls.size = B.ml)
    (hf : B'.rm.frames + 1 ≤ B.rm.frames) (hl : W + (B'.ml + 11) + B'.rm.locals ≤ B.rm.locals) {ce' sl' : Nat} (hce : ce + B'.rm.cells = ce') (hsl : sl + B'.rm.slots = sl') (hc : ce' ≤ B.rm.cells) (hs : sl' ≤ B.rm.slots)
    (r : ∀ v h' σ', (∀ x, σ x → σ' x) → Q' v h' σ' → Go l Z a0 EL n0 kn B D Q h' σ' ce' sl' (pc + 3) Ls (push v rest)) : Go l Z a0 EL n0 kn B D Q h σ ce sl pc Ls st := by
  subst hce hsl
  refine called W hM w4 w3 hf hl hc hs (fun T vm0 locs X h1 h4 h5 ok {Pre Pst} hB hpre => ?_) r
  obtain ⟨mk, methM, hnamed, hmethM, hstM, habM⟩ := Cond.instanceMethod_spec (mv (s := D.s.setVm vm0) (args := D.args) h4 w6)
  obtain ⟨methM', cM, hmethM', -, -, -, -, -, -, hsigM⟩ := Cond.code_spec hnamed (mv (s := D.s.setVm vm0) (args := D.args) h4 w4)
  cases hmethM.symm.trans hmethM'
  obtain ⟨c2, r2, m2, -, -, q3, -, kP, hkP, hkPi⟩ := Cond.selects_spec (mv (s := D.s.setVm vm0) (args := D.args) h4 w5)
  cases hnamed.symm.trans q3
  have hpriv := Cond.privateMethod_at (mvP (s := D.s.setVm vm0) (args := D.args) h4 w2)
  obtain ⟨cell, k, hcell, -, -, hns, -⟩ := E
  have hselP : selectMethod D.e.platform (D.s.setVm vm0).vm cell.cls mk = .method mk := selectMethod_private hmethM (hpriv mk methM hnamed hmethM)
  obtain ⟨vm₁, X₁, hstep₁⟩ := X.invokevirtual ok.1 (s := D.s.setVm vm0) h5 (mv (s := D.s.setVm vm0) h4 w1) hnamed hmethM hstM hkP hkPi hy (a := a) (cell := cell) (by rw [h1]; exact hcell) (fun q e => by rw [e] at hns; cases hns) hselP hmethM habM hkP hkPi (g := mkF D.m pc Ls st) rfl (argsL := argsL) (rest := rest) (hlen _ hsigM) hst (Jvm.hb ok.2.1 hd)
  obtain ⟨v, Bp, X', hS, hgr, hpost, hsteps⟩ := hB D.m D.meth D.c ⟨T.setVm vm₁, locs, ce, sl⟩ { mkF D.m pc Ls st with stack := rest } (.invokevirtual ix) mk (.ref a :: argsL).toArray X₁ rfl (hsz.trans ok.2.2.1.symm) (Jvm.hb ok.2.1 hd) (by show 2 * 0 + _ ≤ _; rw [hW]; omega) (X₁.named hnamed) (hpre vm₁ X₁.warmed)
  exact ⟨v, vm₁, Bp, X₁.warmed, X', hS, hgr, hpost, (hstep₁ _ fun acts => by rw [doInvoke_state]; exact Steps.refl _).trans hsteps⟩
/-- super.m(..) -/
theorem callUp (pc : Nat) {ix : Nat} {argsL rest : List Value} (C : String) (W : Nat) (hd : decode B.bs pc = .ok (.invokespecial ix, 3)) (w1 : (Jvm.Cond.methodLink B.y.cls ix B'.y).before a0 Z = true) (nf : NotFace Z B'.y) (w6 : (Jvm.Cond.instanceMethod B'.y).before a0 Z = true) (w7 : (Jvm.Cond.superclass B.y.cls B'.y.cls).before a0 Z = true) (w3 : (Jvm.Cond.initialized B'.y.cls).before a0 Z = true) (w4 : (Jvm.Cond.code B'.y B'.bs B'.ml B'.rt).before a0 Z = true) (hn : B'.y.name ≠ "<init>") (hy : notMH B'.y)
    (E : Exa Z h a C) (hM : Con l Z EL n0 kn B' [] σ (.ref a :: argsL).toArray h Q') (hlen : ∀ sig, parseMethodDescriptor B'.y.desc = some sig → argsL.length = sig.parameters.length) (hst : st = argsL.reverse ++ .ref a :: rest) (hW : (rest.map fun v => v.category).sum = W) (hsz : Ls.size = B.ml)
    (hf : B'.rm.frames + 1 ≤ B.rm.frames) (hl : W + (B'.ml + 11) + B'.rm.locals ≤ B.rm.locals) {ce' sl' : Nat} (hce : ce + B'.rm.cells = ce') (hsl : sl + B'.rm.slots = sl') (hc : ce' ≤ B.rm.cells) (hs : sl' ≤ B.rm.slots)
    (r : ∀ v h' σ', (∀ x, σ x → σ' x) → Q' v h' σ' → Go l Z a0 EL n0 kn B D Q h' σ' ce' sl' (pc + 3) Ls (push v rest)) : Go l Z a0 EL n0 kn B D Q h σ ce sl pc Ls st := by
  subst hce hsl
  exact called W hM w4 w3 hf hl hc hs (fun T vm0 locs X h1 h4 h5 ok {Pre Pst} hB hpre =>
    superBackS X ok.1 (s := D.s.setVm vm0) h4 h5 w1 (same_of w6 nf hy) w6 w7 hn hB h1 (Ins.self E) (g := mkF D.m pc Ls st) rfl (hsz.trans ok.2.2.1.symm) w4 (argsL := argsL) (rest := rest) hlen hst (by show 2 * 0 + _ ≤ _; rw [hW]; omega) (Jvm.hb ok.2.1 hd) hpre) r
end Calls2
end Jvm.Road
namespace Jvm.Road
open Jvm Jvm.ClassFile Sem Op Lib Jvm.Free Jvm.Stand Jvm.LawKit Jvm.RoadKit Bundle
/-- a digit's char -/
def dc (k : Nat) : Int32 := Nat.toInt32 (48 + k)
def decN (n : Nat) : List Int32 := if n < 10 then [dc n] else decN (n / 10) ++ [dc (n % 10)]
termination_by n
theorem decN_lt {n : Nat} (h : n < 10) : decN n = [dc n] := by rw [decN, if_pos h]
theorem decN_ge {n : Nat} (h : 10 ≤ n) : decN n = decN (n / 10) ++ [dc (n % 10)] := by rw [decN, if_neg (by omega)]
theorem decN_100 {n : Nat} (h : 100 ≤ n) : decN n = decN (n / 100) ++ [dc (n % 100 / 10), dc (n % 100 % 10)] := by
  rw [decN_ge (by omega), decN_ge (show 10 ≤ n / 10 by omega), List.append_assoc, Nat.div_div_eq_div_mul, show n / 10 % 10 = n % 100 / 10 by omega, show n % 10 = n % 100 % 10 by omega]; rfl
theorem decN_len : ∀ (k n : Nat), n < 10 ^ (k + 1) → (k = 0 ∨ 10 ^ k ≤ n) → (decN n).length = k + 1
  | 0, n, h, _ => by rw [decN_lt (by simpa using h)]; rfl
  | k + 1, n, h, q => by
    have q : 10 ^ (k + 1) ≤ n := q.resolve_left (by omega)
    have e : 10 ^ (k + 1 + 1) = 10 ^ (k + 1) * 10 := Nat.pow_succ ..
    have e2 : 10 ^ (k + 1) = 10 ^ k * 10 := Nat.pow_succ ..
    have e3 : 0 < 10 ^ k := Nat.pow_pos (by omega)
    rw [decN_ge (by omega), List.length_append, decN_len k (n / 10) (by omega) (by by_cases hk : k = 0; exact Or.inl hk; exact Or.inr (by omega))]; rfl
theorem decN_pos (n : Nat) : 1 ≤ (decN n).length := by
  rw [decN]; split
  · simp
  · simp
theorem dc_int {k : Nat} (h : k < 10) : (dc k).toInt = 48 + k := by unfold dc; rw [n32 (by omega)]; omega
theorem decN_lat (n : Nat) : ∀ c ∈ decN n, 0 ≤ c.toInt ∧ c.toInt < 256 := by
  induction n using Nat.strongRecOn with
  | _ n ih =>
    intro c hc
    by_cases h : n < 10
    · rw [decN_lt h] at hc; cases List.mem_singleton.mp hc; rw [dc_int h]; omega
    · rw [decN_ge (by omega)] at hc
      rcases List.mem_append.mp hc with q | q
      · exact ih _ (by omega) c q
      · cases List.mem_singleton.mp q; rw [dc_int (by omega)]; omega
theorem decN_get : ∀ (n i : Nat) (hi : i < (decN n).length), (decN n)[i] = dc (n / 10 ^ ((decN n).length - 1 - i) % 10) := by
  intro n
  induction n using Nat.strongRecOn with
  | _ n ih =>
    intro i hi
    by_cases h : n < 10
    · simp only [decN_lt h, List.length_singleton] at hi ⊢
      have : i = 0 := by omega
      subst this
      simp [Nat.mod_eq_of_lt h]
    · have e := decN_ge (show 10 ≤ n by omega)
      have hl : (decN n).length = (decN (n / 10)).length + 1 := by rw [e, List.length_append]; rfl
      by_cases hk : i < (decN (n / 10)).length
      · have h1 : (decN n)[i] = (decN (n / 10))[i] := by simp only [e]; rw [List.getElem_append_left hk]
        rw [h1, ih _ (by omega) i hk, hl]
        have e2 : (decN (n / 10)).length + 1 - 1 - i = ((decN (n / 10)).length - 1 - i) + 1 := by omega
        rw [e2, Nat.pow_succ, Nat.mul_comm, Nat.div_div_eq_div_mul]
      · have hi2 : i = (decN (n / 10)).length := by omega
        have h1 : (decN n)[i] = dc (n % 10) := by simp only [e]; rw [List.getElem_append_right (by omega)]; simp [hi2]
        rw [h1, hl, hi2]; simp
/-- an int in decimal -/
def dec (x : Int32) : List Int32 := if x.toInt < 0 then 45 :: decN x.toInt.natAbs else decN x.toInt.natAbs
theorem dec_lat (x : Int32) : ∀ c ∈ dec x, 0 ≤ c.toInt ∧ c.toInt < 256 := by
  intro c hc; unfold dec at hc; split at hc
  · rcases List.mem_cons.mp hc with q | q
    · rw [q]; decide
    · exact decN_lat _ c q
  · exact decN_lat _ c hc
theorem set_last (U T : List Value) (v : Value) (P : Nat) (h : U.length = P + 1) : (U ++ T).set P v = U.take P ++ v :: T := by
  rw [List.set_append_left _ _ (by omega), List.set_eq_take_append_cons_drop, if_pos (by omega), List.drop_of_length_le (by omega), List.append_assoc]; rfl
theorem put_wr (cs ds : List Int32) (r : List Value) (hl : ds.length ≤ r.length) : (cs.map byt ++ r).take cs.length ++ (ds.map byt ++ (cs.map byt ++ r).drop (cs.length + ds.length)) = (cs ++ ds).map byt ++ r.drop ds.length := by
  have e1 : (cs.map byt).length = cs.length := List.length_map _
  rw [List.take_append_of_le_length (by omega), List.take_of_length_le (by omega), List.map_append, ← e1, ← List.drop_drop, List.drop_left, List.append_assoc]
def OnesL : List Value := (List.range 100).map fun i => byt (dc (i % 10))
def TensL : List Value := (List.range 100).map fun i => byt (dc (i / 10))
theorem ones_at {k : Nat} (h : k < 100) : OnesL[k]? = some (byt (dc (k % 10))) := by unfold OnesL; rw [List.getElem?_map, List.getElem?_range h]; rfl
theorem tens_at {k : Nat} (h : k < 100) : TensL[k]? = some (byt (dc (k / 10))) := by unfold TensL; rw [List.getElem?_map, List.getElem?_range h]; rfl
theorem byt_dc {k : Nat} (h : k < 10) : byt (dc k) = .int (dc k) := (by decide +kernel : ∀ i : Fin 10, byt (dc i.1) = .int (dc i.1)) ⟨k, h⟩
theorem nar_dc {k : Nat} (h : k < 10) : nar .byte (dc k) = dc k := (by decide +kernel : ∀ i : Fin 10, nar .byte (dc i.1) = dc i.1) ⟨k, h⟩
theorem div100 {x : Int32} {m : Nat} (hm : m ≤ 2147483648) (hx : x.toInt = -(m : Int)) : (x / 100).toInt = -((m / 100 : Nat) : Int) := by
  rw [Int32.toInt_div, hx, show (100 : Int32).toInt = 100 from rfl, Int.neg_tdiv]
  rw [show (m : Int).tdiv 100 = ((m / 100 : Nat) : Int) by rw [Int.tdiv_eq_ediv_of_nonneg (by omega)]; omega]
  rw [Int.bmod_eq_of_le] <;> omega
theorem rem100 {x : Int32} {m : Nat} (hm : m ≤ 2147483648) (hx : x.toInt = -(m : Int)) : (x / 100 * 100 - x).toInt = ((m % 100 : Nat) : Int) := by
  have h1 := div100 hm hx
  rw [Int32.toInt_sub, Int32.toInt_mul, h1, hx, show (100 : Int32).toInt = 100 from rfl]
  rw [Int.bmod_eq_of_le (n := -((m / 100 : Nat) : Int) * 100) (by omega) (by omega)]
  rw [Int.bmod_eq_of_le] <;> omega
theorem neg_int {x : Int32} {m : Nat} (hm : m < 2147483648) (hx : x.toInt = -(m : Int)) : (-x).toInt = (m : Int) := by
  rw [Int32.toInt_neg, hx, Int.bmod_eq_of_le] <;> omega
theorem neg_nat {x : Int32} (hx : 0 ≤ x.toInt) : (-x).toInt = -((x.toInt.natAbs : Nat) : Int) := by
  have := Int32.toInt_lt x
  rw [Int32.toInt_neg, Int.bmod_eq_of_le] <;> omega
theorem nat_le (x : Int32) : x.toInt.natAbs ≤ 2147483648 := by
  have := Int32.toInt_lt x; have := Int32.le_toInt x; omega
theorem lt0 (x : Int32) : x < 0 ↔ x.toInt < 0 := by rw [Int32.lt_iff_toInt_lt]; rfl
theorem pred32 (i : Nat) : (i + 1).toInt32 + (-1) = i.toInt32 := by rw [← succ32, Int32.add_assoc]; exact Int32.add_zero _
theorem decN_le : ∀ (k n : Nat), n < 10 ^ (k + 1) → (decN n).length ≤ k + 1
  | 0, n, h => by rw [decN_lt (by simpa using h)]; exact Nat.le_refl _
  | k + 1, n, h => by
    by_cases q : n < 10
    · rw [decN_lt q]; simp
    · have e : 10 ^ (k + 1 + 1) = 10 ^ (k + 1) * 10 := Nat.pow_succ ..
      rw [decN_ge (by omega), List.length_append]
      have := decN_le k (n / 10) (by omega)
      simp only [List.length_singleton]; omega
theorem dec_le (x : Int32) : (dec x).length ≤ 11 := by
  have h := decN_le 9 x.toInt.natAbs (by have := nat_le x; omega)
  unfold dec; split
  · rw [List.length_cons]; omega
  · omega
theorem dec_pos (x : Int32) : 1 ≤ (dec x).length := by
  unfold dec; split
  · simp
  · exact decN_pos _
def PWL : List Value := [.long 1, .long 10, .long 100, .long 1000, .long 10000, .long 100000, .long 1000000, .long 10000000, .long 100000000, .long 1000000000]
def pw (e : Nat) : Int64 := Int64.ofNat (10 ^ e)
theorem pw_at {e : Nat} (h : e < 10) : PWL[e]? = some (.long (pw e)) := (fun | 0 => rfl | 1 => rfl | 2 => rfl | 3 => rfl | 4 => rfl | 5 => rfl | 6 => rfl | 7 => rfl | 8 => rfl | 9 => rfl : ∀ i : Fin 10, PWL[i.1]? = some (.long (pw i.1))) ⟨e, h⟩
theorem pw_int {e : Nat} (h : e < 10) : (pw e).toInt = ((10 ^ e : Nat) : Int) := (by decide +kernel : ∀ i : Fin 10, (pw i.1).toInt = ((10 ^ i.1 : Nat) : Int)) ⟨e, h⟩
theorem pw_ne {e : Nat} (h : e < 10) : pw e ≠ 0 := (by decide +kernel : ∀ i : Fin 10, pw i.1 ≠ 0) ⟨e, h⟩
theorem ldiv_nat {v w : Int64} {m k : Nat} (hm : m ≤ 2147483648) (hk : 0 < k) (hv : v.toInt = (m : Int)) (hw : w.toInt = (k : Int)) : (v / w).toInt = ((m / k : Nat) : Int) := by
  have hle : m / k ≤ m := Nat.div_le_self m k
  rw [Int64.toInt_div, hv, hw, Int.tdiv_eq_ediv_of_nonneg (by omega), ← Int.natCast_ediv]
  generalize m / k = c at *
  rw [Int.bmod_eq_of_le] <;> omega
theorem lrem_nat {v : Int64} {m : Nat} (hm : m ≤ 2147483648) (hv : v.toInt = (m : Int)) : (v - v / 10 * 10).toInt = ((m % 10 : Nat) : Int) := by
  have h1 := ldiv_nat (w := 10) (k := 10) hm (by omega) hv rfl
  rw [Int64.toInt_sub, Int64.toInt_mul, h1, hv, show (10 : Int64).toInt = 10 from rfl]
  rw [Int.bmod_eq_of_le (n := ((m / 10 : Nat) : Int) * 10) (by omega) (by omega)]
  rw [Int.bmod_eq_of_le] <;> omega
theorem l2i_nat {v : Int64} {m : Nat} (hm : m < 2147483648) (hv : v.toInt = (m : Int)) : v.toInt32 = Nat.toInt32 m := by
  apply Int32.toInt_inj.mp
  rw [n32 hm, Int64.toInt_toInt32, hv, Int.bmod_eq_of_le] <;> omega
theorem digit_chr {k : Nat} (h : k < 10) : chr ((48 : Int32) + Nat.toInt32 k) = dc k := (by decide +kernel : ∀ i : Fin 10, chr ((48 : Int32) + Nat.toInt32 i.1) = dc i.1) ⟨k, h⟩
theorem digit_char {k : Nat} (h : k < 10) : nar .char (chr ((48 : Int32) + Nat.toInt32 k)) = dc k := (by decide +kernel : ∀ i : Fin 10, nar .char (chr ((48 : Int32) + Nat.toInt32 i.1)) = dc i.1) ⟨k, h⟩
theorem i2l_int (x : Int32) : (Int32.toInt64 x).toInt = x.toInt := Int32.toInt_toInt64 x
theorem lneg_nat {v : Int64} {m : Nat} (hm : m ≤ 2147483648) (hv : v.toInt = -(m : Int)) : (-v).toInt = (m : Int) := by
  rw [Int64.toInt_neg, hv, Int.bmod_eq_of_le] <;> omega
theorem decN_list (m : Nat) : decN m = (List.range (decN m).length).map (fun j => dc (m / 10 ^ ((decN m).length - 1 - j) % 10)) := by
  apply List.ext_getElem (by simp)
  intro i h1 h2
  rw [decN_get m i h1, List.getElem_map, List.getElem_range]
theorem nar_dcc {k : Nat} (h : k < 10) : nar .char (dc k) = dc k := (by decide +kernel : ∀ i : Fin 10, nar .char (dc i.1) = dc i.1) ⟨k, h⟩
theorem buf_set {pre : List Int32} {c : Int32} {r k : Nat} (h : k < r) : (pre.map Value.int ++ List.replicate (r - k) (Value.int 0)).set pre.length (Value.int c) = (pre ++ [c]).map Value.int ++ List.replicate (r - (k + 1)) (Value.int 0) := by
  have e1 : (pre.map Value.int).length = pre.length := List.length_map _
  rw [show r - k = (r - (k + 1)) + 1 from by omega, List.set_append_right _ _ (by omega), e1, Nat.sub_self, List.replicate_succ]; simp
theorem rem3 (x : Int32) : (x &&& 1073741823) % 3 = 0 ∨ (x &&& 1073741823) % 3 = 1 ∨ (x &&& 1073741823) % 3 = 2 := by
  have h1 : (x &&& 1073741823).toInt = ((x.toBitVec &&& 1073741823#32).toInt) := rfl
  have h2 : (x.toBitVec &&& 1073741823#32).toNat ≤ 1073741823 := by rw [BitVec.toNat_and]; exact Nat.and_le_right
  have h3 : (x &&& 1073741823).toInt = ((x.toBitVec &&& 1073741823#32).toNat : Int) := by rw [h1, BitVec.toInt_eq_toNat_of_lt (by omega)]
  have h4 : ((x &&& 1073741823) % 3).toInt = (x &&& 1073741823).toInt % 3 := by
    rw [Int32.toInt_mod, show (3 : Int32).toInt = 3 from rfl, Int.tmod_eq_emod_of_nonneg (by omega)]
  have h5 : ∀ k : Int32, ((x &&& 1073741823) % 3).toInt = k.toInt → (x &&& 1073741823) % 3 = k := fun k q => Int32.toInt_inj.mp q
  have e : (x &&& 1073741823).toInt % 3 = 0 ∨ (x &&& 1073741823).toInt % 3 = 1 ∨ (x &&& 1073741823).toInt % 3 = 2 := by omega
  rcases e with e | e | e
  · exact Or.inl (h5 0 (by rw [h4, e]; rfl))
  · exact Or.inr (Or.inl (h5 1 (by rw [h4, e]; rfl)))
  · exact Or.inr (Or.inr (h5 2 (by rw [h4, e]; rfl)))
end Jvm.Road
namespace Jvm.Road
open Jvm Jvm.ClassFile Sem Op Lib Jvm.Free Jvm.Stand Jvm.LawKit Jvm.RoadKit Bundle
section Boot
variable {Z : State} {a : Addr} {args a0 : Array Value}
theorem Ary.boot {C n d : String} {k : Int32} {vs : List Value} {body : Term} (ev : (Term.static C n d).eval args Z none [] Z = some (.ref a)) (hx : (Cond.exactly (Term.static C n d) "[B").value args Z none Z [] = some true)
    (wa : (Jvm.Cond.arrayClass .byte).before a0 Z = true) (hl : (Cond.eq (Term.length (Term.static C n d)) (Term.int k)).value args Z none Z [] = some true) (hn : k.toInt = vs.length)
    (hall : (Cond.all (Term.static C n d) (Cond.eq (Term.elem (Term.static C n d) (Term.index 0)) body)).value args Z none Z [] = some true)
    (hb : ∀ i, i < vs.length → ∃ w, vs[i]? = some (.int w) ∧ fits .byte (.int w) = true ∧ body.eval args Z none [i] Z = some (.int w)) : Ary Z Z.heap a .byte vs := by
  obtain ⟨c, e1, e2, e3⟩ := len_lt (eq_int_of hl) ev
  have e4 := (arrayAt_spec e1).1
  have e5 : c.slots.size = vs.length := by
    have : k.toInt = (c.slots.size : Int) := by
      injection e3 with q; rw [q]; exact len_toInt e2
    omega
  obtain ⟨cell, kk, g1, g2, g3, g4, -⟩ := Exa.start ev hx
  cases e4.symm.trans g1
  obtain ⟨cA, kA, comp, hfind, hk, hkind⟩ := Cond.arrayClass_spec wa
  have hfind : Z.vm.findClass "[B" = some cA := hfind
  cases g2.symm.trans hfind
  have A : Arr Z Z.heap a c .byte := ⟨e4, ⟨(fun q e => by rw [e] at g4; cases g4), kA, hk, comp, hkind⟩, arrayAt_known e1⟩
  have hat : ∀ i, i < vs.length → c.slots[i]? = vs[i]? ∧ ∃ w, vs[i]? = some (.int w) ∧ fits .byte (.int w) = true := fun i hi => by
    obtain ⟨w, w1, w2, w3⟩ := hb i hi
    have q := Cond.all_elim ev e1 hall i (by omega)
    obtain ⟨x, y, q1, q2, -, k2⟩ := cmp_v (Or.inl q)
    cases w3.symm.trans q2
    obtain ⟨z, rfl⟩ := k2
    have r := gotT (Cond.eq_ints q1 w3) q
    subst r
    have hj : (Term.index 0).eval args Z none [i] Z = some (.int (Nat.toInt32 i)) := rfl
    have ev' : (Term.static C n d).eval args Z none [i] Z = some (.ref a) := ev
    have := (elem_in q1 ev' hj e4).2
    rw [(ix_of (n32 (i := i) (by omega))).2] at this
    exact ⟨this.trans w1.symm, _, w1, w2⟩
  refine ⟨c, A, ?_, by omega, fun v hv => ?_⟩
  · apply List.ext_getElem?
    intro i
    by_cases hi : i < vs.length
    · rw [Array.getElem?_toList]; exact (hat i hi).1
    · rw [List.getElem?_eq_none (Nat.le_of_not_lt hi), List.getElem?_eq_none (by rw [Array.length_toList, e5]; exact Nat.le_of_not_lt hi)]
  · obtain ⟨i, hi, rfl⟩ := List.getElem_of_mem hv
    obtain ⟨-, w, w1, w2⟩ := hat i hi
    rw [List.getElem?_eq_getElem hi] at w1
    rw [Option.some.inj w1]; exact w2
theorem ones_boot : ∀ i, i < OnesL.length → ∃ w, OnesL[i]? = some (.int w) ∧ fits .byte (.int w) = true ∧ (Term.add (Term.int 48) (Term.rem (Term.index 0) (Term.int 10))).eval args Z none [i] Z = some (.int w) := fun i hi => by
  have hi : i < 100 := by simpa [OnesL] using hi
  refine ⟨dc (i % 10), by rw [ones_at hi, byt_dc (by omega)], (by decide +kernel : ∀ i : Fin 10, fits .byte (.int (dc i.1)) = true) ⟨i % 10, by omega⟩, ?_⟩
  simp only [Term.eval, List.getElem?_cons_zero, Option.map_some, Option.bind_eq_bind, Option.bind_some]
  have := (by decide +kernel : ∀ i : Fin 100, (48 : Int32) + (Nat.toInt32 i.1) % 10 = dc (i.1 % 10)) ⟨i, hi⟩
  simpa using this
theorem tens_boot : ∀ i, i < TensL.length → ∃ w, TensL[i]? = some (.int w) ∧ fits .byte (.int w) = true ∧ (Term.add (Term.int 48) (Term.div (Term.index 0) (Term.int 10))).eval args Z none [i] Z = some (.int w) := fun i hi => by
  have hi : i < 100 := by simpa [TensL] using hi
  refine ⟨dc (i / 10), by rw [tens_at hi, byt_dc (by omega)], (by decide +kernel : ∀ i : Fin 10, fits .byte (.int (dc i.1)) = true) ⟨i / 10, by omega⟩, ?_⟩
  simp only [Term.eval, List.getElem?_cons_zero, Option.map_some, Option.bind_eq_bind, Option.bind_some]
  have := (by decide +kernel : ∀ i : Fin 100, (48 : Int32) + (Nat.toInt32 i.1) / 10 = dc (i.1 / 10)) ⟨i, hi⟩
  simpa using this
end Boot
end Jvm.Road
namespace Jvm.Road
open Jvm Jvm.ClassFile Sem Op Lib Jvm.Free Jvm.Stand Jvm.LawKit Jvm.RoadKit Bundle
/-- the array at a is over the class C -/
def Ova (Z : State) (h : Heap) (a : Addr) (C : String) : Prop := ∃ cell : Cell, h[a]? = some cell ∧ Ovr Z cell.cls C
theorem Ova.keep {Z : State} {h h' : Heap} {a : Addr} {C : String} {ws : List Addr} (F : Ova Z h a C) (K : Keep h h' ws) : Ova Z h' a C := by
  obtain ⟨c, e, O⟩ := F
  obtain ⟨c', e', q, -⟩ := K.2.2 a c e
  exact ⟨c', e', by rw [q]; exact O⟩
section Refs
variable {l : Launch} {Z : State} {a0 : Array Value} {EL : List (String × Nat)} {n0 : Nat} {kn : Bool} {B B' : Bdy} {D : Dyn} {Q Q' : Post} {h : Heap} {σ : Addr → Prop} {ce sl : Nat} {Ls : Array Slot} {st : List Value} {a : Addr}
theorem anewarray (pc : Nat) {ix : Nat} (C : String) (n cap : Nat) {z : Int32} (hd : decode B.bs pc = .ok (.anewarray ix, 3)) (w1 : (Jvm.Cond.classLink B.y.cls ix C).before a0 Z = true) (w2 : (Jvm.Cond.arrayOver (.object C)).before a0 Z = true) (hz : z.toInt = (n : Int)) (hcap : n ≤ cap) (hb : cap * 8 ≤ 536870912) {ce' sl' : Nat} (hce : ce + 1 = ce') (hsl : sl + cap = sl') (hc : ce' ≤ B.rm.cells) (hs : sl' ≤ B.rm.slots)
    (r : ∀ a h' σ', a = h.size → Keep h h' [] → a < h'.size → (∀ x, σ x → σ' x) → σ' a → Ary Z h' a (.object C) (List.replicate n .null) → Ova Z h' a C → Go l Z a0 EL n0 kn B D Q h' σ' ce' sl' (pc + 3) Ls (.ref a :: st)) : Go l Z a0 EL n0 kn B D Q h σ ce sl pc Ls (.int z :: st) := by
  subst hce hsl
  exact made (P := fun h' => Ary Z h' h.size (.object C) (List.replicate n .null) ∧ Ova Z h' h.size C)
    (fun T vm0 locs X h1 h4 h5 ok => by
      obtain ⟨q1, q2⟩ := ix_of hz
      obtain ⟨T', h', cA, X', e', E, A, O, s'⟩ := newR X ok.1 (s := D.s.setVm vm0) h4 h5 w1 w2 h1 (g := mkF D.m pc Ls (.int z :: st)) rfl (Jvm.hb ok.2.1 hd) rfl q1 (cap := cap) (by rw [q2]; exact hcap) hb hc hs
      refine ⟨T', h', X', e', E, A.lt, ⟨⟨_, A, ?_, ?_, ?_⟩, ⟨_, A.1, O⟩⟩, s'⟩
      · show (Array.replicate z.toNatClampNeg (defaultValue (.object C))).toList = _
        rw [q2, Array.toList_replicate]; rfl
      · rw [List.length_replicate]; omega
      · intro v hv
        rw [(List.mem_replicate.mp hv).2]; rfl)
    (fun h' σ' K hlt m1 m2 P => r h.size h' σ' rfl K hlt m1 m2 P.1 P.2)
theorem newarrayE (pc : Nat) {aty : ArrayType} (ty : FieldType) (n cap : Nat) {z : Int32} (ad : String) (had : "[" ++ (newarray.typeOf aty).toString = ad) (hd : decode B.bs pc = .ok (.newarray aty, 2)) (hty : newarray.typeOf aty = ty) (w : (Jvm.Cond.arrayClass ty).before a0 Z = true) (hz : z.toInt = (n : Int)) (hcap : n ≤ cap) (hb : cap * 8 ≤ 536870912) {ce' sl' : Nat} (hce : ce + 1 = ce') (hsl : sl + cap = sl') (hc : ce' ≤ B.rm.cells) (hs : sl' ≤ B.rm.slots)
    (r : ∀ a h' σ', a = h.size → Keep h h' [] → a < h'.size → (∀ x, σ x → σ' x) → σ' a → Ary Z h' a ty (List.replicate n (defaultValue ty)) → Exa Z h' a ad → Go l Z a0 EL n0 kn B D Q h' σ' ce' sl' (pc + 2) Ls (.ref a :: st)) : Go l Z a0 EL n0 kn B D Q h σ ce sl pc Ls (.int z :: st) := by
  subst hce hsl
  exact made (P := fun h' => Ary Z h' h.size ty (List.replicate n (defaultValue ty)) ∧ Exa Z h' h.size ad)
    (fun T vm0 locs X h1 h4 h5 ok => by
      subst hty
      obtain ⟨q1, q2⟩ := ix_of hz
      obtain ⟨T', h', cA, X', e', E, A, EE, s'⟩ := newPE X ok.1 (s := D.s.setVm vm0) h4 w h1 (g := mkF D.m pc Ls (.int z :: st)) rfl (Jvm.hb ok.2.1 hd) rfl q1 (cap := cap) (by rw [q2]; exact hcap) hb hc hs had
      refine ⟨T', h', X', e', E, A.lt, ⟨⟨_, A, ?_, ?_, ?_⟩, EE⟩, s'⟩
      · show (Array.replicate z.toNatClampNeg (defaultValue (newarray.typeOf aty))).toList = _
        rw [q2, Array.toList_replicate]
      · rw [List.length_replicate]; omega
      · intro v hv
        rw [(List.mem_replicate.mp hv).2]
        cases aty <;> rfl)
    (fun h' σ' K hlt m1 m2 P => r h.size h' σ' rfl K hlt m1 m2 P.1 P.2)
theorem aastore (pc : Nat) {C : String} {vs : List Value} {j : Int32} {y : Addr} (i : Nat) (hd : decode B.bs pc = .ok (.aastore, 1)) (A : Ary Z h a (.object C) vs) (O : Ova Z h a C) (I : Ins Z h y C true) (hj : j.toInt = (i : Int)) (hi : i < vs.length) (hσ : σ a)
    (r : ∀ h', Keep h h' [a] → Ary Z h' a (.object C) (vs.set i (.ref y)) → Go l Z a0 EL n0 kn B D Q h' σ ce sl (pc + 1) Ls st) : Go l Z a0 EL n0 kn B D Q h σ ce sl pc Ls (.ref y :: .int j :: .ref a :: st) :=
  wrote hσ (i := i) (v := .ref y) (fun T vm0 locs X h1 h4 h5 ok => by
    obtain ⟨c, Ar, e, -⟩ := A
    obtain ⟨c', e', Ov⟩ := O
    cases Ar.1.symm.trans e'
    have := stR X ok.1 (s := D.s.setVm vm0) h4 h1 Ar (Ary.inb e hj hi) rfl (Sto.of Ar Ov I) (g := mkF D.m pc Ls (.ref y :: .int j :: .ref a :: st)) rfl rfl (Jvm.hb ok.2.1 hd)
    rw [(ix_of hj).2] at this; exact this)
    (fun h' W K => r h' K (A.wr W rfl))
theorem callF (pc : Nat) {ix cnt : Nat} {xi : MethodName} {argsL rest : List Value} (C : String) (W : Nat) (hd : decode B.bs pc = .ok (.invokeinterface ix cnt, 5)) (w1 : (Jvm.Cond.methodLink B.y.cls ix xi).before a0 Z = true) (w2 : (Jvm.Cond.declares xi).before a0 Z = true) (w7 : (Jvm.Cond.interfaceMethod xi.cls xi.cls xi.name xi.desc).before a0 Z = true)
    (w5 : (Jvm.Cond.selects C xi B'.y).before a0 Z = true) (w6 : (Jvm.Cond.instanceMethod B'.y).before a0 Z = true) (w8 : (Jvm.Cond.publicMethod B'.y).before a0 Z = true) (w9 : (Jvm.Cond.unhidden C xi.name xi.desc).before a0 Z = true) (w10 : (Jvm.Cond.castable C xi.cls).before a0 Z = true) (w3 : (Jvm.Cond.initialized B'.y.cls).before a0 Z = true) (w4 : (Jvm.Cond.code B'.y B'.bs B'.ml B'.rt).before a0 Z = true) (hy : notMH xi) (hk : ((Jvm.Cond.interfaceMethod xi.cls xi.cls xi.name xi.desc).onTables && (Jvm.Cond.interfaceMethod xi.cls xi.cls xi.name xi.desc).keepsFace) = true)
    (E : Exa Z h a C) (hM : Con l Z EL n0 kn B' [] σ (.ref a :: argsL).toArray h Q') (hlen : ∀ sig, parseMethodDescriptor xi.desc = some sig → argsL.length = sig.parameters.length) (hst : st = argsL.reverse ++ .ref a :: rest) (hW : (rest.map fun v => v.category).sum = W) (hsz : Ls.size = B.ml)
    (hf : B'.rm.frames + 1 ≤ B.rm.frames) (hl : W + (B'.ml + 11) + B'.rm.locals ≤ B.rm.locals) {ce' sl' : Nat} (hce : ce + B'.rm.cells = ce') (hsl : sl + B'.rm.slots = sl') (hc : ce' ≤ B.rm.cells) (hs : sl' ≤ B.rm.slots)
    (r : ∀ v h' σ', (∀ x, σ x → σ' x) → Q' v h' σ' → Go l Z a0 EL n0 kn B D Q h' σ' ce' sl' (pc + 5) Ls (push v rest)) : Go l Z a0 EL n0 kn B D Q h σ ce sl pc Ls st := by
  subst hce hsl
  exact called W hM w4 w3 hf hl hc hs (fun T vm0 locs X h1 h4 h5 ok {Pre Pst} hB hpre => by
    obtain ⟨cq, kq, qa, qb, qc⟩ := isOf (s := D.s.setVm vm0) h4 h1 E
    exact X.interfaceBackS ok.1 (s := D.s.setVm vm0) (C := C) h5 (mv (s := D.s.setVm vm0) h4 w1) (mv (s := D.s.setVm vm0) h4 w2) (mv (s := D.s.setVm vm0) h4 w7 hk) (mv (s := D.s.setVm vm0) h4 w5) (mv (s := D.s.setVm vm0) h4 w6) (mv (s := D.s.setVm vm0) h4 w8) (mv (s := D.s.setVm vm0) h4 w9) (mv (s := D.s.setVm vm0) h4 w10) hy hB qa qb qc (g := mkF D.m pc Ls st) rfl (hsz.trans ok.2.2.1.symm) (Steps.refl _) (argsL := argsL) (rest := rest) hlen hst (by show 2 * 0 + _ ≤ _; rw [hW]; omega) (Jvm.hb ok.2.1 hd) hpre) r
end Refs
end Jvm.Road
namespace Jvm.Road
open Jvm Jvm.ClassFile Sem Op Lib Jvm.Free Jvm.Stand Jvm.LawKit Jvm.RoadKit Bundle
theorem u32_of {c : Int32} (h : 0 ≤ c.toInt) : (u32 c : Int) = c.toInt := by
  have e : c.toInt = c.toBitVec.toInt := rfl
  have := BitVec.toInt_eq_toNat_cond c.toBitVec
  unfold u32; rw [e] at h ⊢; split at this <;> omega
theorem toInt8_and (x : Int32) : Int32.toInt8 (x &&& 255) = Int32.toInt8 x := by
  apply Int8.toBitVec_inj.mp
  apply BitVec.eq_of_toNat_eq
  show ((x &&& 255).toBitVec.signExtend 8).toNat = (x.toBitVec.signExtend 8).toNat
  have e : ∀ y : BitVec 32, (y.signExtend 8).toNat = y.toNat % 256 := fun y => by rw [BitVec.signExtend_eq_setWidth_of_le _ (by omega), BitVec.toNat_setWidth]
  rw [e, e]
  have := u32_and255 x
  unfold u32 at this
  rw [this]; omega
theorem u32_bf (x : Int32) : u32 (bf x &&& 255) = u32 x % 256 := by
  have h1 : bf x = bf (x &&& 255) := by unfold bf; rw [toInt8_and]
  have h2 : 0 ≤ (x &&& 255).toInt ∧ (x &&& 255).toInt < 256 := by
    have := u32_and255 x
    have h3 : u32 (x &&& 255) < 2147483648 := by omega
    rw [toInt_u32 h3]; omega
  rw [h1, ← u32_and255 x]
  obtain ⟨i, e⟩ := lat_nat h2
  rw [e]
  exact congrArg u32 ((by decide +kernel : ∀ i : Fin 256, bf (Int32.ofInt (i.1 : Int)) &&& 255 = Int32.ofInt (i.1 : Int)) i)
theorem u32_shr8 {c : Int32} (h : 0 ≤ c.toInt) : u32 (c >>> ((8 : Int32) &&& 31)) = u32 c / 256 := by
  have hc : u32 c < 2147483648 := by have := u32_of h; have := Int32.toInt_lt c; omega
  show ((c >>> (8 : Int32)).toBitVec).toNat = _
  have e : (c >>> (8 : Int32)).toBitVec = c.toBitVec.sshiftRight 8 := by
    rw [Int32.toBitVec_shiftRight]; rfl
  rw [e, BitVec.sshiftRight_eq_of_msb_false (by rw [BitVec.msb_eq_false_iff_two_mul_lt]; unfold u32 at hc; omega), BitVec.toNat_ushiftRight, Nat.shiftRight_eq_div_pow]; rfl
theorem u32_shl8 (x : Int32) : u32 (x <<< ((8 : Int32) &&& 31)) = u32 x * 256 % 4294967296 := by
  show ((x <<< (8 : Int32)).toBitVec).toNat = _
  have e : (x <<< (8 : Int32)).toBitVec = x.toBitVec <<< 8 := by
    rw [Int32.toBitVec_shiftLeft]; rfl
  rw [e, BitVec.toNat_shiftLeft, Nat.shiftLeft_eq]; rfl
theorem u32_or (x y : Int32) : u32 (x ||| y) = u32 x ||| u32 y := BitVec.toNat_or ..
/-- two bytes and back -/
theorem u16_back {c : Int32} (h : 0 ≤ c.toInt ∧ c.toInt < 65536) : nar .char (chr (((bf (c >>> ((0 : Int32) &&& 31)) &&& 255) <<< ((0 : Int32) &&& 31)) ||| ((bf (c >>> ((8 : Int32) &&& 31)) &&& 255) <<< ((8 : Int32) &&& 31)))) = c := by
  have hc := u32_of h.1
  have hlt : u32 c < 65536 := by omega
  rw [nar_chr]
  apply u32_inj
  rw [u32_chr, u32_or, shr0, shl0, u32_shl8, u32_bf, u32_bf, u32_shr8 h.1]
  have e1 : u32 c / 256 % 256 = u32 c / 256 := by omega
  rw [e1, Nat.mod_eq_of_lt (show u32 c / 256 * 256 < 4294967296 by omega)]
  have e2 : u32 c % 256 ||| u32 c / 256 * 256 = u32 c := by
    rw [Nat.or_comm, Nat.mul_comm, show (256 : Nat) = 2 ^ 8 from rfl, ← Nat.two_pow_add_eq_or_of_lt (show u32 c % 2 ^ 8 < 2 ^ 8 by omega)]
    omega
  rw [e2]; omega
theorem u32_nat (k : Nat) : u32 (Nat.toInt32 k) = k % 4294967296 := by unfold u32; show (BitVec.ofNat 32 k).toNat = _; rw [BitVec.toNat_ofNat]
theorem u32_shl1 (x : Int32) : u32 (x <<< ((1 : Int32) &&& 31)) = u32 x * 2 % 4294967296 := by
  show ((x <<< (1 : Int32)).toBitVec).toNat = _
  have e : (x <<< (1 : Int32)).toBitVec = x.toBitVec <<< 1 := by
    rw [Int32.toBitVec_shiftLeft]; rfl
  rw [e, BitVec.toNat_shiftLeft, Nat.shiftLeft_eq]; rfl
theorem shl1 (k : Nat) : (Nat.toInt32 k) <<< ((1 : Int32) &&& 31) = Nat.toInt32 (2 * k) := u32_inj (by rw [u32_shl1, u32_nat, u32_nat]; omega)
theorem u32_shr1 {c : Int32} (h : 0 ≤ c.toInt) : u32 (c >>> ((1 : Int32) &&& 31)) = u32 c / 2 := by
  have hc : u32 c < 2147483648 := by have := u32_of h; have := Int32.toInt_lt c; omega
  show ((c >>> (1 : Int32)).toBitVec).toNat = _
  have e : (c >>> (1 : Int32)).toBitVec = c.toBitVec.sshiftRight 1 := by
    rw [Int32.toBitVec_shiftRight]; rfl
  rw [e, BitVec.sshiftRight_eq_of_msb_false (by rw [BitVec.msb_eq_false_iff_two_mul_lt]; unfold u32 at hc; omega), BitVec.toNat_ushiftRight, Nat.shiftRight_eq_div_pow]; rfl
theorem shr1 {k : Nat} (h : 2 * k < 2147483648) : (Nat.toInt32 (2 * k)) >>> ((1 : Int32) &&& 31) = Nat.toInt32 k := u32_inj (by rw [u32_shr1 (by rw [n32 h]; omega), u32_nat, u32_nat]; omega)
def lo8 (c : Int32) : Int32 := Int8.toInt32 (Int32.toInt8 (c >>> ((0 : Int32) &&& 31)))
def hi8 (c : Int32) : Int32 := Int8.toInt32 (Int32.toInt8 (c >>> ((8 : Int32) &&& 31)))
/-- a char's two bytes, the low one first -/
def utf : List Int32 → List Value
  | [] => []
  | c :: r => .int (lo8 c) :: .int (hi8 c) :: utf r
theorem utf_len : ∀ cs : List Int32, (utf cs).length = 2 * cs.length
  | [] => rfl
  | c :: r => by simp only [utf, List.length_cons, utf_len r]; omega
theorem utf_app : ∀ cs ds : List Int32, utf (cs ++ ds) = utf cs ++ utf ds
  | [], ds => rfl
  | c :: r, ds => by simp only [List.cons_append, utf, utf_app r ds]
theorem utf_at : ∀ (cs : List Int32) (k : Nat) (h : k < cs.length), (utf cs)[2 * k]? = some (.int (lo8 cs[k])) ∧ (utf cs)[2 * k + 1]? = some (.int (hi8 cs[k]))
  | c :: r, 0, _ => ⟨rfl, rfl⟩
  | c :: r, k + 1, h => by
    have := utf_at r k (by simpa using h)
    simpa [utf, Nat.mul_add, Nat.add_right_comm] using this
theorem utf_put (cs : List Int32) (r k : Nat) (h : k < cs.length) : ((utf (cs.take k) ++ List.replicate (2 * (r + 1)) (Value.int 0)).set (2 * k) (.int (lo8 cs[k]))).set (2 * k + 1) (.int (hi8 cs[k])) = utf (cs.take (k + 1)) ++ List.replicate (2 * r) (.int 0) := by
  have hl : (utf (cs.take k)).length = 2 * k := by rw [utf_len, List.length_take]; omega
  rw [List.take_succ_eq_append_getElem h, utf_app, show 2 * (r + 1) = 2 * r + 1 + 1 from by omega, List.replicate_succ, List.replicate_succ]
  rw [List.set_append_right _ _ (by omega), List.set_append_right _ _ (by omega), hl, Nat.sub_self, show 2 * k + 1 - 2 * k = 1 from by omega]
  simp [utf]
def Str16 (Z : State) (h : Heap) (a b : Addr) (cs : List Int32) : Prop := Exa Z h a SN ∧ Fld Z h a SN "coder" "B" (.int 1) ∧ Fld Z h a SN "value" "[B" (.ref b) ∧ Ary Z h b .byte (utf cs) ∧ (∀ c ∈ cs, 0 ≤ c.toInt ∧ c.toInt < 65536) ∧ 0 < cs.length
/-- a String of either kind -/
def StrX (Z : State) (h : Heap) (a b : Addr) (cs : List Int32) : Prop := Str Z h a b cs ∨ Str16 Z h a b cs
def hiS (c : Int32) : Prop := 55296 ≤ c.toInt ∧ c.toInt < 56320
def loS (c : Int32) : Prop := 56320 ≤ c.toInt ∧ c.toInt < 57344
instance (c : Int32) : Decidable (hiS c) := inferInstanceAs (Decidable (_ ∧ _))
instance (c : Int32) : Decidable (loS c) := inferInstanceAs (Decidable (_ ∧ _))
/-- a surrogate pair begins at i -/
def pr (cs : List Int32) (i : Nat) : Nat := if h : i + 1 < cs.length then (if hiS cs[i] ∧ loS cs[i + 1] then 1 else 0) else 0
def psum (cs : List Int32) : Nat → Nat
  | 0 => 0
  | m + 1 => psum cs m + pr cs m
theorem pr_le (cs : List Int32) (i : Nat) : pr cs i ≤ 1 := by unfold pr; split <;> (try split) <;> omega
theorem psum_le (cs : List Int32) : ∀ m, psum cs m ≤ m
  | 0 => Nat.le_refl _
  | m + 1 => by have := psum_le cs m; have := pr_le cs m; simp only [psum]; omega
theorem pr_end {cs : List Int32} {i : Nat} (h : cs.length ≤ i + 1) : pr cs i = 0 := by unfold pr; rw [dif_neg (by omega)]
theorem psum_end {cs : List Int32} : ∀ {m k : Nat}, cs.length ≤ m + 1 → m ≤ k → psum cs k = psum cs m := by
  intro m k h hk
  induction k with
  | zero => have : m = 0 := by omega
            subst this; rfl
  | succ k ih =>
    by_cases e : m = k + 1
    · rw [e]
    · simp only [psum]; rw [ih (by omega), pr_end (by omega), Nat.add_zero]
theorem psum_lat {cs : List Int32} (h : ∀ c ∈ cs, 0 ≤ c.toInt ∧ c.toInt < 256) : ∀ m, psum cs m = 0
  | 0 => rfl
  | m + 1 => by
    simp only [psum, psum_lat h m]; unfold pr; split
    · rw [if_neg]; intro q; have := h _ (List.getElem_mem (show m < cs.length by omega)); unfold hiS at q; omega
    · rfl
theorem cfa16 {n : Nat} (h0 : 0 < n) (h : n < 1000) : nar .byte (Int8.toInt32 (Int32.toInt8 (XT.ushr (Nat.toInt32 n - Nat.toInt32 (2 * n)) 31))) = 1 := by
  have e : Nat.toInt32 n - Nat.toInt32 (2 * n) = -(Nat.toInt32 n) := by
    rw [show 2 * n = n + n from by omega, ← add32n]
    generalize Nat.toInt32 n = x
    rw [Int32.sub_eq_add_neg, Int32.neg_add, Int32.sub_eq_add_neg, ← Int32.add_assoc, Int32.add_right_neg, Int32.zero_add]
  rw [e]
  exact (by decide +kernel : ∀ i : Fin 1000, 0 < i.1 → nar .byte (Int8.toInt32 (Int32.toInt8 (XT.ushr (-(Nat.toInt32 i.1)) 31))) = 1) ⟨n, h⟩ h0
theorem pr_lo {cs : List Int32} {i : Nat} (h : i < cs.length) (hl : loS cs[i]) : pr cs i = 0 := by
  unfold pr; split
  · rw [if_neg]; intro q; have := q.1; unfold hiS at this; unfold loS at hl; omega
  · rfl
theorem and255L (y : Int64) : 0 ≤ (Int64.toInt32 (y &&& 255)).toInt ∧ (Int64.toInt32 (y &&& 255)).toInt < 256 := by
  have h : u32 (Int64.toInt32 (y &&& 255)) < 256 := by
    show ((y &&& 255).toBitVec.signExtend 32).toNat < 256
    rw [BitVec.signExtend_eq_setWidth_of_le _ (by omega), BitVec.toNat_setWidth]
    have : ((y &&& 255).toBitVec).toNat ≤ 255 := by
      show (y.toBitVec &&& (255 : Int64).toBitVec).toNat ≤ 255
      rw [BitVec.toNat_and]; exact Nat.and_le_right
    omega
  rw [toInt_u32 (by omega)]; omega
theorem chr_add {a x : Int32} {A : Nat} (ha : a.toInt = (A : Int)) (hA : A + 255 < 65536) (hx : 0 ≤ x.toInt ∧ x.toInt < 256) : (chr (a + x)).toInt = A + x.toInt ∧ nar .char (chr (a + x)) = chr (a + x) := by
  have e1 := u32_of (c := a) (by omega)
  have e2 := u32_of hx.1
  have e3 : u32 (a + x) = u32 a + u32 x := by
    show (a.toBitVec + x.toBitVec).toNat = _
    rw [BitVec.toNat_add]; unfold u32 at *; omega
  have e4 : u32 (chr (a + x)) = u32 a + u32 x := by rw [u32_chr, e3]; omega
  refine ⟨?_, nar_chr _⟩
  rw [toInt_u32 (by omega), e4]; omega
/-- the law's kind of a place -/
def kd (kinds : Int32) (i : Nat) : Int32 := XT.ushr kinds ((2 : Int32) * Nat.toInt32 i) &&& 3
theorem u32_and15 (x : Int32) : x &&& 15 = Nat.toInt32 (u32 x % 16) := u32_inj (by rw [u32_nat, u32_and]; have : u32 x &&& u32 (15 : Int32) = u32 x % 16 := and_mask _ 4; rw [this]; omega)
/-- what the law's chars are, by their kinds -/
def KF (kinds : Int32) (cs : List Int32) : Prop := ∀ j (hj : j < cs.length), (0 ≤ cs[j].toInt ∧ cs[j].toInt < 65536) ∧ (hiS cs[j] ↔ kd kinds j = 2) ∧ (loS cs[j] ↔ kd kinds j = 3)
theorem KF.snoc {kinds : Int32} {cs : List Int32} {c : Int32} {i : Nat} (h : KF kinds cs) (hi : cs.length = i) (hc : (0 ≤ c.toInt ∧ c.toInt < 65536) ∧ (hiS c ↔ kd kinds i = 2) ∧ (loS c ↔ kd kinds i = 3)) : KF kinds (cs ++ [c]) := by
  intro j hj
  rw [List.length_append, List.length_singleton] at hj
  by_cases q : j < cs.length
  · rw [List.getElem_append_left q]; exact h j q
  · have : j = cs.length := by omega
    subst this
    rw [List.getElem_append_right (Nat.le_refl _)]; simp only [Nat.sub_self, List.getElem_cons_zero]; rw [hi]; exact hc
theorem KF.c16 {kinds : Int32} {cs : List Int32} (h : KF kinds cs) : ∀ c ∈ cs, 0 ≤ c.toInt ∧ c.toInt < 65536 := fun c hc => by
  obtain ⟨j, hj, rfl⟩ := List.getElem_of_mem hc; exact (h j hj).1
theorem KF.pr {kinds : Int32} {cs : List Int32} (h : KF kinds cs) (i : Nat) : pr cs i = if i + 1 < cs.length ∧ kd kinds i = 2 ∧ kd kinds (i + 1) = 3 then 1 else 0 := by
  unfold Road.pr
  by_cases q : i + 1 < cs.length
  · rw [dif_pos q]
    have a := (h i (by omega)).2.1
    have b := (h (i + 1) q).2.2
    by_cases u : hiS cs[i] ∧ loS cs[i + 1]
    · rw [if_pos u, if_pos ⟨q, a.mp u.1, b.mp u.2⟩]
    · rw [if_neg u, if_neg (fun v => u ⟨a.mpr v.2.1, b.mpr v.2.2⟩)]
  · rw [dif_neg q, if_neg (fun v => q v.1)]
theorem buf_put (pre : List Int32) (c : Int32) (r : Nat) : (pre.map Value.int ++ List.replicate (r + 1) (Value.int 0)).set pre.length (Value.int c) = (pre ++ [c]).map Value.int ++ List.replicate r (Value.int 0) := by
  have e1 : (pre.map Value.int).length = pre.length := List.length_map _
  rw [List.set_append_right _ _ (by omega), e1, Nat.sub_self, List.replicate_succ]; simp
theorem nar16 {c : Int32} (h : 0 ≤ c.toInt ∧ c.toInt < 65536) : nar .char c = c := by
  have e := u32_of h.1
  have : chr c = c := chr_id (by omega)
  rw [← this, nar_chr]
end Jvm.Road
namespace Jvm.Pilot.@@N@@
open Jvm Jvm.ClassFile Sem Op Lib Jvm.Free Jvm.Stand Jvm.LawKit Jvm.RoadKit Bundle Jvm.Pilot.@@N@@.Jvm.D
set_option maxRecDepth 65536
theorem wI {a0 : Array Value} {Z : State} (hw : ∀ d ∈ tables_1, d.before a0 Z = true) (i : Nat) {d : Jvm.Cond} (h : tables_1[i]? = some d) : d.before a0 Z = true := hw d (List.mem_of_getElem? h)
end Jvm.Pilot.@@N@@
namespace Jvm.Road
open Jvm Jvm.ClassFile Sem Op Lib Jvm.Free Jvm.Stand Jvm.LawKit Jvm.RoadKit Bundle
/-- builders of either coder: their text, N places for chars, no char deleted -/
def Sb0 (Z : State) (h : Heap) (a b : Addr) (cs : List Int32) (N : Nat) : Prop := Exa Z h a SB ∧ Fld Z h a AB "coder" "B" (.int 0) ∧ Fld Z h a AB "value" "[B" (.ref b) ∧ Fld Z h a AB "count" "I" (.int (Nat.toInt32 cs.length)) ∧ (∃ r : List Value, Ary Z h b .byte (cs.map byt ++ r) ∧ cs.length + r.length = N) ∧ (∀ c ∈ cs, 0 ≤ c.toInt ∧ c.toInt < 256) ∧ Fld Z h a AB "maybeLatin1" "Z" (.int 0) ∧ Exa Z h b "[B"
def Sb1 (Z : State) (h : Heap) (a b : Addr) (cs : List Int32) (N : Nat) : Prop := Exa Z h a SB ∧ Fld Z h a AB "coder" "B" (.int 1) ∧ Fld Z h a AB "value" "[B" (.ref b) ∧ Fld Z h a AB "count" "I" (.int (Nat.toInt32 cs.length)) ∧ (∃ r : List Value, Ary Z h b .byte (utf cs ++ r) ∧ 2 * cs.length + r.length = 2 * N) ∧ (∀ c ∈ cs, 0 ≤ c.toInt ∧ c.toInt < 65536) ∧ Fld Z h a AB "maybeLatin1" "Z" (.int 0) ∧ Exa Z h b "[B"
section SbU
variable {Z : State} {h h' : Heap} {a b : Addr} {cs : List Int32} {N : Nat} {ws : List Addr}
theorem Sb0.keep (F : Sb0 Z h a b cs N) (K : Keep h h' ws) (q : a ∉ ws) (q' : b ∉ ws) : Sb0 Z h' a b cs N := by
  obtain ⟨f1, f2, f3, f4, ⟨r, f5, f6⟩, f7, f8, f9⟩ := F
  exact ⟨f1.keep K, f2.keep K q, f3.keep K q, f4.keep K q, ⟨r, f5.keep K q', f6⟩, f7, f8.keep K q, f9.keep K⟩
theorem Sb0.lt (F : Sb0 Z h a b cs N) : a < h.size := F.1.lt
theorem Sb0.ltb (F : Sb0 Z h a b cs N) : b < h.size := by obtain ⟨_, _, _, _, ⟨r, f5, -⟩, _⟩ := F; exact f5.lt
theorem Sb0.le (F : Sb0 Z h a b cs N) : cs.length ≤ N := by obtain ⟨_, _, _, _, ⟨r, -, f6⟩, _⟩ := F; omega
theorem Sb0.small (F : Sb0 Z h a b cs N) : N < 2147483648 := by obtain ⟨_, _, _, _, ⟨r, f5, f6⟩, _⟩ := F; have := f5.small; simp only [List.length_append, List.length_map] at this; omega
theorem Sb1.keep (F : Sb1 Z h a b cs N) (K : Keep h h' ws) (q : a ∉ ws) (q' : b ∉ ws) : Sb1 Z h' a b cs N := by
  obtain ⟨f1, f2, f3, f4, ⟨r, f5, f6⟩, f7, f8, f9⟩ := F
  exact ⟨f1.keep K, f2.keep K q, f3.keep K q, f4.keep K q, ⟨r, f5.keep K q', f6⟩, f7, f8.keep K q, f9.keep K⟩
theorem Sb1.lt (F : Sb1 Z h a b cs N) : a < h.size := F.1.lt
theorem Sb1.ltb (F : Sb1 Z h a b cs N) : b < h.size := by obtain ⟨_, _, _, _, ⟨r, f5, -⟩, _⟩ := F; exact f5.lt
theorem Sb1.le (F : Sb1 Z h a b cs N) : cs.length ≤ N := by obtain ⟨_, _, _, _, ⟨r, -, f6⟩, _⟩ := F; omega
theorem Sb1.small (F : Sb1 Z h a b cs N) : 2 * N < 2147483648 := by obtain ⟨_, _, _, _, ⟨r, f5, f6⟩, _⟩ := F; have := f5.small; simp only [List.length_append, utf_len] at this; omega
theorem Str16.keep (F : Str16 Z h a b cs) (K : Keep h h' ws) (q : a ∉ ws) (q' : b ∉ ws) : Str16 Z h' a b cs := ⟨F.1.keep K, F.2.1.keep K q, F.2.2.1.keep K q, F.2.2.2.1.keep K q', F.2.2.2.2⟩
theorem Str16.lt (F : Str16 Z h a b cs) : a < h.size := F.1.lt
theorem Str16.ltb (F : Str16 Z h a b cs) : b < h.size := F.2.2.2.1.lt
end SbU
theorem utf_put_str (cs ds : List Int32) (r : List Value) (hl : 2 * ds.length ≤ r.length) : (utf cs ++ r).take (2 * cs.length) ++ ((utf ds).drop 0).take (2 * ds.length) ++ (utf cs ++ r).drop (2 * cs.length + 2 * ds.length) = utf (cs ++ ds) ++ r.drop (2 * ds.length) := by
  have e1 : (utf cs).length = 2 * cs.length := utf_len cs
  have e2 : (utf ds).length = 2 * ds.length := utf_len ds
  rw [List.take_append_of_le_length (by omega), List.take_of_length_le (by omega), List.drop_zero, List.take_of_length_le (by omega), utf_app, ← e1, ← List.drop_drop, List.drop_left]
theorem utf_put_chr (cs : List Int32) (x : Int32) (r : List Value) (hl : 2 ≤ r.length) : ((utf cs ++ r).set (2 * cs.length) (.int (lo8 x))).set (2 * cs.length + 1) (.int (hi8 x)) = utf (cs ++ [x]) ++ r.drop 2 := by
  have e1 : (utf cs).length = 2 * cs.length := utf_len cs
  match r, hl with
  | a :: b :: r, _ =>
    rw [List.set_append_right _ _ (by omega), e1, Nat.sub_self, List.set_append_right _ _ (by omega), e1, show 2 * cs.length + 1 - 2 * cs.length = 1 from by omega, utf_app]
    simp [utf]
theorem lat_and {c : Int32} (h : 0 ≤ c.toInt ∧ c.toInt < 256) : Int8.toInt32 (Int32.toInt8 c) &&& 255 = c := by
  obtain ⟨i, rfl⟩ := lat_nat h
  exact (by decide +kernel : ∀ i : Fin 256, Int8.toInt32 (Int32.toInt8 (Int32.ofInt (i.1 : Int))) &&& 255 = Int32.ofInt (i.1 : Int)) i
theorem or_nn {i j : Nat} (hi : i < 2147483648) (hj : j < 2147483648) : Nat.toInt32 i ||| Nat.toInt32 j = Nat.toInt32 (i ||| j) ∧ i ||| j < 2147483648 := by
  have hb : i ||| j < 2 ^ 31 := Nat.or_lt_two_pow (by omega) (by omega)
  refine ⟨u32_inj ?_, by omega⟩
  rw [u32_or, u32_nat, u32_nat, u32_nat, Nat.mod_eq_of_lt (by omega), Nat.mod_eq_of_lt (by omega), Nat.mod_eq_of_lt (by omega)]
theorem chr16 (x : Int32) : 0 ≤ (chr x).toInt ∧ (chr x).toInt < 65536 := by
  have h : u32 (chr x) < 65536 := by rw [u32_chr]; omega
  have e : (chr x).toInt = (u32 (chr x) : Int) := by
    show (chr x).toBitVec.toInt = _
    rw [BitVec.toInt_eq_toNat_of_lt (by show 2 * u32 (chr x) < 2 ^ 32; omega)]; rfl
  omega
theorem and3rem (x : Int32) : (x &&& 3) % 3 = 0 ∨ (x &&& 3) % 3 = 1 ∨ (x &&& 3) % 3 = 2 := by
  rcases and3 x with h | h | h | h <;> rw [h] <;> decide
theorem mid_at {X pr ds rest : List Int32} (h : X = pr ++ (ds ++ rest)) : ∀ i (hi : i < ds.length), X[pr.length + i]? = some ds[i] := fun i hi => by
  rw [h, List.getElem?_append_right (by omega), Nat.add_sub_cancel_left, List.getElem?_append_left hi, List.getElem?_eq_getElem hi]
theorem one_at {X pr rest : List Int32} {c : Int32} (h : X = pr ++ ([c] ++ rest)) : X[pr.length]? = some c := by
  rw [h, List.getElem?_append_right (by omega), Nat.sub_self]; rfl
end Jvm.Road
namespace Jvm.Pilot.@@N@@
open Jvm Jvm.ClassFile Sem Op Lib Jvm.Free Jvm.Stand Jvm.LawKit Jvm.RoadKit Bundle Jvm.Pilot.@@N@@.Jvm.D
set_option maxRecDepth 65536
def bPch : Road.Bdy := (⟨"java/lang/StringUTF16", "putChar", "([BII)V"⟩, jdk_52_method_4_code, 3, none, { frames := 0, cells := 0, slots := 0, locals := 0 })
theorem bPch_d0 : decode bPch.bs 0 = .ok (.getstatic 44, 3) := by decide +kernel
theorem bPch_d3 : decode bPch.bs 3 = .ok (.ifCond .ne 25, 3) := by decide +kernel
theorem bPch_d6 : decode bPch.bs 6 = .ok (.iload_n 1, 1) := by decide +kernel
theorem bPch_d7 : decode bPch.bs 7 = .ok (.ifCond .lt 11, 3) := by decide +kernel
theorem bPch_d10 : decode bPch.bs 10 = .ok (.iload_n 1, 1) := by decide +kernel
theorem bPch_d11 : decode bPch.bs 11 = .ok (.aload_n 0, 1) := by decide +kernel
theorem bPch_d12 : decode bPch.bs 12 = .ok (.invokestatic 48, 3) := by decide +kernel
theorem bPch_d15 : decode bPch.bs 15 = .ok (.if_icmp .lt 13, 3) := by decide +kernel
theorem bPch_d18 : decode bPch.bs 18 = .ok (.new 52, 3) := by decide +kernel
theorem bPch_d21 : decode bPch.bs 21 = .ok (.dup, 1) := by decide +kernel
theorem bPch_d22 : decode bPch.bs 22 = .ok (.ldc 54, 2) := by decide +kernel
theorem bPch_d24 : decode bPch.bs 24 = .ok (.invokespecial 56, 3) := by decide +kernel
theorem bPch_d27 : decode bPch.bs 27 = .ok (.athrow, 1) := by decide +kernel
theorem bPch_d28 : decode bPch.bs 28 = .ok (.iload_n 1, 1) := by decide +kernel
theorem bPch_d29 : decode bPch.bs 29 = .ok (.iconst 1, 1) := by decide +kernel
theorem bPch_d30 : decode bPch.bs 30 = .ok (.ishl, 1) := by decide +kernel
theorem bPch_d31 : decode bPch.bs 31 = .ok (.istore_n 1, 1) := by decide +kernel
theorem bPch_d32 : decode bPch.bs 32 = .ok (.aload_n 0, 1) := by decide +kernel
theorem bPch_d33 : decode bPch.bs 33 = .ok (.iload_n 1, 1) := by decide +kernel
theorem bPch_d34 : decode bPch.bs 34 = .ok (.iinc 1 1, 3) := by decide +kernel
theorem bPch_d37 : decode bPch.bs 37 = .ok (.iload_n 2, 1) := by decide +kernel
theorem bPch_d38 : decode bPch.bs 38 = .ok (.getstatic 59, 3) := by decide +kernel
theorem bPch_d41 : decode bPch.bs 41 = .ok (.ishr, 1) := by decide +kernel
theorem bPch_d42 : decode bPch.bs 42 = .ok (.i2b, 1) := by decide +kernel
theorem bPch_d43 : decode bPch.bs 43 = .ok (.bastore, 1) := by decide +kernel
theorem bPch_d44 : decode bPch.bs 44 = .ok (.aload_n 0, 1) := by decide +kernel
theorem bPch_d45 : decode bPch.bs 45 = .ok (.iload_n 1, 1) := by decide +kernel
theorem bPch_d46 : decode bPch.bs 46 = .ok (.iload_n 2, 1) := by decide +kernel
theorem bPch_d47 : decode bPch.bs 47 = .ok (.getstatic 63, 3) := by decide +kernel
theorem bPch_d50 : decode bPch.bs 50 = .ok (.ishr, 1) := by decide +kernel
theorem bPch_d51 : decode bPch.bs 51 = .ok (.i2b, 1) := by decide +kernel
theorem bPch_d52 : decode bPch.bs 52 = .ok (.bastore, 1) := by decide +kernel
theorem bPch_d53 : decode bPch.bs 53 = .ok (.return_, 1) := by decide +kernel
theorem bPch_pd : parseMethodDescriptor "([BII)V" = some ⟨[(.array .byte), .int, .int], none⟩ := by decide +kernel
theorem bPch_pn : plainFor bPch.y = true := plainFor_of_name (show plainName "java/lang/StringUTF16" = true from by first | (simp [plainName, overriddenIn]; done) | decide +kernel)
theorem cPch (l : Launch) (Z : State) (a0 : Array Value) (hw : ∀ d ∈ tables_1, d.before a0 Z = true) (n0 : Nat) (hEW : EW Z a0 consts_1) (d : Addr) (vd : List Value) (k : Nat) (c : Int32) (h0 : Heap) (σ : Addr → Prop) (A : Road.Ary Z h0 d .byte vd) (hk : 2 * k + 1 < vd.length) (sd : σ d) (H0 : Sta Z Z.heap "java/lang/StringUTF16" "$assertionsDisabled" "Z" (.int 1)) (H1 : Sta Z Z.heap "java/lang/StringUTF16" "HI_BYTE_SHIFT" "I" (.int 0)) (H2 : Sta Z Z.heap "java/lang/StringUTF16" "LO_BYTE_SHIFT" "I" (.int 8)) :
    Road.Con l Z consts_1 n0 false bPch [] σ #[(.ref d), (.int (Nat.toInt32 k)), (.int c)] h0 (fun v h2 _ => v = none ∧ Keep h0 h2 [d] ∧ Road.Ary Z h2 d .byte ((vd.set (2 * k) (.int (Road.lo8 c))).set (2 * k + 1) (.int (Road.hi8 c)))) := by
  have hsm := A.small
  refine Road.Con.of bPch_pn hEW #[.val (.ref d), .val (.int (Nat.toInt32 k)), .val (.int c)] (fun m => Road.ent (Road.laid1 rfl (Road.laid1 rfl (Road.laid1 rfl Road.laid0))) (k := 0) rfl rfl) ?_
  intro D hD
  refine Road.getstatic 0 bPch_d0 (wI hw 240 rfl) Via.refl H0 ?_
  refine Road.if_ne 3 28 bPch_d3 rfl (fun hc3 => ?_) (fun q => absurd q (by decide))
  refine Road.iloadN 28 bPch_d28 rfl ?_
  refine Road.iconst 29 (1 : Int32) bPch_d29 rfl ?_
  refine Road.ishl 30 bPch_d30 ?_
  refine Road.nameI ?_
  intro z_1 hz_1
  obtain rfl : z_1 = (Nat.toInt32 (2 * k)) := by rw [hz_1]; exact Road.shl1 _
  refine Road.istoreN 31 #[.val (.ref d), .val (.int (Nat.toInt32 (2 * k))), .val (.int c)] bPch_d31 rfl ?_
  refine Road.aloadN 32 bPch_d32 rfl ?_
  refine Road.iloadN 33 bPch_d33 rfl ?_
  refine Road.iinc 34 (1) #[.val (.ref d), .val (.int ((Nat.toInt32 (2 * k)) + 1)), .val (.int c)] bPch_d34 rfl rfl rfl ?_
  refine Road.iloadN 37 bPch_d37 rfl ?_
  refine Road.getstatic 38 bPch_d38 (wI hw 241 rfl) Via.refl H1 ?_
  refine Road.ishr 41 bPch_d41 ?_
  refine Road.i2b 42 bPch_d42 ?_
  refine Road.bastore 43 (2 * k) (Road.lo8 c) bPch_d43 A (Road.n32 (by omega)) (by omega) (Road.nar_byte _) sd ?_
  intro h_2 K_3 A_4
  replace A := A_4
  refine Road.aloadN 44 bPch_d44 rfl ?_
  refine Road.iloadN 45 bPch_d45 rfl ?_
  refine Road.nameI ?_
  intro z_5 hz_5
  obtain rfl : z_5 = (Nat.toInt32 (2 * k + 1)) := by rw [hz_5]; exact Road.succ32 _
  refine Road.iloadN 46 bPch_d46 rfl ?_
  refine Road.getstatic 47 bPch_d47 (wI hw 242 rfl) Via.refl H2 ?_
  refine Road.ishr 50 bPch_d50 ?_
  refine Road.i2b 51 bPch_d51 ?_
  refine Road.bastore 52 (2 * k + 1) (Road.hi8 c) bPch_d52 A (Road.n32 (by omega)) (by rw [List.length_set]; omega) (Road.nar_byte _) sd ?_
  intro h_6 K_7 A_8
  replace A := A_8
  exact Road.ret 53 bPch_d53 rfl (by decide) (by decide) (fun σ' m => ⟨rfl, K_3.trans K_7 (by simp), A⟩)
def bGch16 : Road.Bdy := (⟨"java/lang/StringUTF16", "getChar", "([BI)C"⟩, jdk_52_method_5_code, 2, (some .char), { frames := 0, cells := 0, slots := 0, locals := 0 })
theorem bGch16_d0 : decode bGch16.bs 0 = .ok (.getstatic 44, 3) := by decide +kernel
theorem bGch16_d3 : decode bGch16.bs 3 = .ok (.ifCond .ne 25, 3) := by decide +kernel
theorem bGch16_d6 : decode bGch16.bs 6 = .ok (.iload_n 1, 1) := by decide +kernel
theorem bGch16_d7 : decode bGch16.bs 7 = .ok (.ifCond .lt 11, 3) := by decide +kernel
theorem bGch16_d10 : decode bGch16.bs 10 = .ok (.iload_n 1, 1) := by decide +kernel
theorem bGch16_d11 : decode bGch16.bs 11 = .ok (.aload_n 0, 1) := by decide +kernel
theorem bGch16_d12 : decode bGch16.bs 12 = .ok (.invokestatic 48, 3) := by decide +kernel
theorem bGch16_d15 : decode bGch16.bs 15 = .ok (.if_icmp .lt 13, 3) := by decide +kernel
theorem bGch16_d18 : decode bGch16.bs 18 = .ok (.new 52, 3) := by decide +kernel
theorem bGch16_d21 : decode bGch16.bs 21 = .ok (.dup, 1) := by decide +kernel
theorem bGch16_d22 : decode bGch16.bs 22 = .ok (.ldc 54, 2) := by decide +kernel
theorem bGch16_d24 : decode bGch16.bs 24 = .ok (.invokespecial 56, 3) := by decide +kernel
theorem bGch16_d27 : decode bGch16.bs 27 = .ok (.athrow, 1) := by decide +kernel
theorem bGch16_d28 : decode bGch16.bs 28 = .ok (.iload_n 1, 1) := by decide +kernel
theorem bGch16_d29 : decode bGch16.bs 29 = .ok (.iconst 1, 1) := by decide +kernel
theorem bGch16_d30 : decode bGch16.bs 30 = .ok (.ishl, 1) := by decide +kernel
theorem bGch16_d31 : decode bGch16.bs 31 = .ok (.istore_n 1, 1) := by decide +kernel
theorem bGch16_d32 : decode bGch16.bs 32 = .ok (.aload_n 0, 1) := by decide +kernel
theorem bGch16_d33 : decode bGch16.bs 33 = .ok (.iload_n 1, 1) := by decide +kernel
theorem bGch16_d34 : decode bGch16.bs 34 = .ok (.iinc 1 1, 3) := by decide +kernel
theorem bGch16_d37 : decode bGch16.bs 37 = .ok (.baload, 1) := by decide +kernel
theorem bGch16_d38 : decode bGch16.bs 38 = .ok (.sipush 255, 3) := by decide +kernel
theorem bGch16_d41 : decode bGch16.bs 41 = .ok (.iand, 1) := by decide +kernel
theorem bGch16_d42 : decode bGch16.bs 42 = .ok (.getstatic 59, 3) := by decide +kernel
theorem bGch16_d45 : decode bGch16.bs 45 = .ok (.ishl, 1) := by decide +kernel
theorem bGch16_d46 : decode bGch16.bs 46 = .ok (.aload_n 0, 1) := by decide +kernel
theorem bGch16_d47 : decode bGch16.bs 47 = .ok (.iload_n 1, 1) := by decide +kernel
theorem bGch16_d48 : decode bGch16.bs 48 = .ok (.baload, 1) := by decide +kernel
theorem bGch16_d49 : decode bGch16.bs 49 = .ok (.sipush 255, 3) := by decide +kernel
theorem bGch16_d52 : decode bGch16.bs 52 = .ok (.iand, 1) := by decide +kernel
theorem bGch16_d53 : decode bGch16.bs 53 = .ok (.getstatic 63, 3) := by decide +kernel
theorem bGch16_d56 : decode bGch16.bs 56 = .ok (.ishl, 1) := by decide +kernel
theorem bGch16_d57 : decode bGch16.bs 57 = .ok (.ior, 1) := by decide +kernel
theorem bGch16_d58 : decode bGch16.bs 58 = .ok (.i2c, 1) := by decide +kernel
theorem bGch16_d59 : decode bGch16.bs 59 = .ok (.ireturn, 1) := by decide +kernel
theorem bGch16_pd : parseMethodDescriptor "([BI)C" = some ⟨[(.array .byte), .int], (some .char)⟩ := by decide +kernel
theorem bGch16_pn : plainFor bGch16.y = true := plainFor_of_name (show plainName "java/lang/StringUTF16" = true from by first | (simp [plainName, overriddenIn]; done) | decide +kernel)
theorem cGch16 (l : Launch) (Z : State) (a0 : Array Value) (hw : ∀ d ∈ tables_1, d.before a0 Z = true) (n0 : Nat) (hEW : EW Z a0 consts_1) (b : Addr) (cs : List Int32) (k : Nat) (h0 : Heap) (σ : Addr → Prop) (A : Road.Ary Z h0 b .byte (Road.utf cs)) (hk : k < cs.length) (h16 : ∀ c ∈ cs, 0 ≤ c.toInt ∧ c.toInt < 65536) (H0 : Sta Z Z.heap "java/lang/StringUTF16" "$assertionsDisabled" "Z" (.int 1)) (H1 : Sta Z Z.heap "java/lang/StringUTF16" "HI_BYTE_SHIFT" "I" (.int 0)) (H2 : Sta Z Z.heap "java/lang/StringUTF16" "LO_BYTE_SHIFT" "I" (.int 8)) :
    Road.Con l Z consts_1 n0 false bGch16 [] σ #[(.ref b), (.int (Nat.toInt32 k))] h0 (fun v h2 _ => v = some (.int cs[k]) ∧ h0 = h2) := by
  have hsm := A.small
  rw [Road.utf_len] at hsm
  refine Road.Con.of bGch16_pn hEW #[.val (.ref b), .val (.int (Nat.toInt32 k))] (fun m => Road.ent (Road.laid1 rfl (Road.laid1 rfl Road.laid0)) (k := 0) rfl rfl) ?_
  intro D hD
  refine Road.getstatic 0 bGch16_d0 (wI hw 240 rfl) Via.refl H0 ?_
  refine Road.if_ne 3 28 bGch16_d3 rfl (fun hc3 => ?_) (fun q => absurd q (by decide))
  refine Road.iloadN 28 bGch16_d28 rfl ?_
  refine Road.iconst 29 (1 : Int32) bGch16_d29 rfl ?_
  refine Road.ishl 30 bGch16_d30 ?_
  refine Road.nameI ?_
  intro z_1 hz_1
  obtain rfl : z_1 = (Nat.toInt32 (2 * k)) := by rw [hz_1]; exact Road.shl1 _
  refine Road.istoreN 31 #[.val (.ref b), .val (.int (Nat.toInt32 (2 * k)))] bGch16_d31 rfl ?_
  refine Road.aloadN 32 bGch16_d32 rfl ?_
  refine Road.iloadN 33 bGch16_d33 rfl ?_
  refine Road.iinc 34 (1) #[.val (.ref b), .val (.int ((Nat.toInt32 (2 * k)) + 1))] bGch16_d34 rfl rfl rfl ?_
  refine Road.baload 37 (2 * k) bGch16_d37 A (Road.n32 (by omega)) (Road.utf_at cs k hk).1 ?_
  refine Road.sipush 38 (255 : Int32) bGch16_d38 rfl ?_
  refine Road.iand 41 bGch16_d41 ?_
  refine Road.getstatic 42 bGch16_d42 (wI hw 241 rfl) Via.refl H1 ?_
  refine Road.ishl 45 bGch16_d45 ?_
  refine Road.aloadN 46 bGch16_d46 rfl ?_
  refine Road.iloadN 47 bGch16_d47 rfl ?_
  refine Road.nameI ?_
  intro z_2 hz_2
  obtain rfl : z_2 = (Nat.toInt32 (2 * k + 1)) := by rw [hz_2]; exact Road.succ32 _
  refine Road.baload 48 (2 * k + 1) bGch16_d48 A (Road.n32 (by omega)) (Road.utf_at cs k hk).2 ?_
  refine Road.sipush 49 (255 : Int32) bGch16_d49 rfl ?_
  refine Road.iand 52 bGch16_d52 ?_
  refine Road.getstatic 53 bGch16_d53 (wI hw 242 rfl) Via.refl H2 ?_
  refine Road.ishl 56 bGch16_d56 ?_
  refine Road.ior 57 bGch16_d57 ?_
  refine Road.i2c 58 bGch16_d58 ?_
  exact Road.iret 59 cs[k] bGch16_d59 (t := .char) rfl (by simp) (Road.u16_back (h16 _ (List.getElem_mem hk))) (by decide) (by decide) (fun σ' m => ⟨rfl, rfl⟩)
def bCmp5 : Road.Bdy := (⟨"java/lang/StringUTF16", "compress", "([CI[BII)I"⟩, jdk_52_method_21_code, 7, (some .int), { frames := 0, cells := 0, slots := 0, locals := 0 })
theorem bCmp5_d0 : decode bCmp5.bs 0 = .ok (.iconst 0, 1) := by decide +kernel
theorem bCmp5_d1 : decode bCmp5.bs 1 = .ok (.istore 5, 2) := by decide +kernel
theorem bCmp5_d3 : decode bCmp5.bs 3 = .ok (.iload 5, 2) := by decide +kernel
theorem bCmp5_d5 : decode bCmp5.bs 5 = .ok (.iload 4, 2) := by decide +kernel
theorem bCmp5_d7 : decode bCmp5.bs 7 = .ok (.if_icmp .ge 37, 3) := by decide +kernel
theorem bCmp5_d10 : decode bCmp5.bs 10 = .ok (.aload_n 0, 1) := by decide +kernel
theorem bCmp5_d11 : decode bCmp5.bs 11 = .ok (.iload_n 1, 1) := by decide +kernel
theorem bCmp5_d12 : decode bCmp5.bs 12 = .ok (.caload, 1) := by decide +kernel
theorem bCmp5_d13 : decode bCmp5.bs 13 = .ok (.istore 6, 2) := by decide +kernel
theorem bCmp5_d15 : decode bCmp5.bs 15 = .ok (.iload 6, 2) := by decide +kernel
theorem bCmp5_d17 : decode bCmp5.bs 17 = .ok (.sipush 255, 3) := by decide +kernel
theorem bCmp5_d20 : decode bCmp5.bs 20 = .ok (.if_icmp .le 6, 3) := by decide +kernel
theorem bCmp5_d23 : decode bCmp5.bs 23 = .ok (.iload 5, 2) := by decide +kernel
theorem bCmp5_d25 : decode bCmp5.bs 25 = .ok (.ireturn, 1) := by decide +kernel
theorem bCmp5_d26 : decode bCmp5.bs 26 = .ok (.aload_n 2, 1) := by decide +kernel
theorem bCmp5_d27 : decode bCmp5.bs 27 = .ok (.iload_n 3, 1) := by decide +kernel
theorem bCmp5_d28 : decode bCmp5.bs 28 = .ok (.iload 6, 2) := by decide +kernel
theorem bCmp5_d30 : decode bCmp5.bs 30 = .ok (.i2b, 1) := by decide +kernel
theorem bCmp5_d31 : decode bCmp5.bs 31 = .ok (.bastore, 1) := by decide +kernel
theorem bCmp5_d32 : decode bCmp5.bs 32 = .ok (.iinc 1 1, 3) := by decide +kernel
theorem bCmp5_d35 : decode bCmp5.bs 35 = .ok (.iinc 3 1, 3) := by decide +kernel
theorem bCmp5_d38 : decode bCmp5.bs 38 = .ok (.iinc 5 1, 3) := by decide +kernel
theorem bCmp5_d41 : decode bCmp5.bs 41 = .ok (.goto (-38), 3) := by decide +kernel
theorem bCmp5_d44 : decode bCmp5.bs 44 = .ok (.iload 4, 2) := by decide +kernel
theorem bCmp5_d46 : decode bCmp5.bs 46 = .ok (.ireturn, 1) := by decide +kernel
theorem bCmp5_pd : parseMethodDescriptor "([CI[BII)I" = some ⟨[(.array .char), .int, (.array .byte), .int, .int], (some .int)⟩ := by decide +kernel
theorem bCmp5_pn : plainFor bCmp5.y = true := plainFor_of_name (show plainName "java/lang/StringUTF16" = true from by first | (simp [plainName, overriddenIn]; done) | decide +kernel)
theorem cCmp5 (l : Launch) (Z : State) (a0 : Array Value) (hw : ∀ d ∈ tables_1, d.before a0 Z = true) (n0 : Nat) (hEW : EW Z a0 consts_1) (b d : Addr) (cs : List Int32) (h0 : Heap) (σ : Addr → Prop) (A : Road.Ary Z h0 b .char (cs.map .int)) (Dd : Road.Ary Z h0 d .byte (List.replicate cs.length (.int 0))) (h16 : ∀ c ∈ cs, 0 ≤ c.toInt ∧ c.toInt < 65536) (hbd : b ≠ d) (sd : σ d) :
    Road.Con l Z consts_1 n0 false bCmp5 [] σ #[(.ref b), (.int (0 : Int32)), (.ref d), (.int (0 : Int32)), (.int (Nat.toInt32 cs.length))] h0 (fun v h2 _ => ∃ x : Int32, v = some (.int x) ∧ Keep h0 h2 [d] ∧ (((∀ c ∈ cs, 0 ≤ c.toInt ∧ c.toInt < 256) ∧ x = (Nat.toInt32 cs.length) ∧ Road.Ary Z h2 d .byte (cs.map Road.byt)) ∨ (∃ (k : Nat) (hk : k < cs.length), x = Nat.toInt32 k ∧ 255 < cs[k].toInt))) := by
  have hn : cs.length < 2147483648 := by have := A.small; rwa [List.length_map] at this
  refine Road.Con.of bCmp5_pn hEW #[.val (.ref b), .val (.int (0 : Int32)), .val (.ref d), .val (.int (0 : Int32)), .val (.int (Nat.toInt32 cs.length)), .unset, .unset] (fun m => Road.ent (Road.laid1 rfl (Road.laid1 rfl (Road.laid1 rfl (Road.laid1 rfl (Road.laid1 rfl Road.laid0))))) (k := 2) rfl rfl) ?_
  intro D hD
  refine Road.iconst 0 (0 : Int32) bCmp5_d0 rfl ?_
  refine Road.istore 1 #[.val (.ref b), .val (.int (0 : Int32)), .val (.ref d), .val (.int (0 : Int32)), .val (.int (Nat.toInt32 cs.length)), .val (.int (0 : Int32)), .unset] bCmp5_d1 rfl ?_
  have loop : ∀ r k, k + r = cs.length → ∀ (h : Heap) (w6 : Slot), Road.W1 w6 → Keep h0 h [d] → (∀ c ∈ cs.take k, 0 ≤ c.toInt ∧ c.toInt < 256) → Road.Ary Z h d .byte ((cs.take k).map Road.byt ++ List.replicate r (.int 0)) → Road.Go l Z a0 consts_1 n0 false bCmp5 D (fun v h2 _ => ∃ x : Int32, v = some (.int x) ∧ Keep h0 h2 [d] ∧ (((∀ c ∈ cs, 0 ≤ c.toInt ∧ c.toInt < 256) ∧ x = (Nat.toInt32 cs.length) ∧ Road.Ary Z h2 d .byte (cs.map Road.byt)) ∨ (∃ (k : Nat) (hk : k < cs.length), x = Nat.toInt32 k ∧ 255 < cs[k].toInt))) h σ 0 0 3 #[.val (.ref b), .val (.int (Nat.toInt32 k)), .val (.ref d), .val (.int (Nat.toInt32 k)), .val (.int (Nat.toInt32 cs.length)), .val (.int (Nat.toInt32 k)), w6] [] := by
    intro r
    induction r with
    | zero =>
      intro k hk h w6 hw6 K1 hL A1
      have hk' : k = cs.length := by omega
      subst hk'
      refine Road.iload 3 bCmp5_d3 rfl ?_
      refine Road.iload 5 bCmp5_d5 rfl ?_
      refine Road.icmp_ge 7 44 bCmp5_d7 rfl (fun hc7 => ?_) (fun q => absurd q Int32.lt_irrefl)
      refine Road.iload 44 bCmp5_d44 rfl ?_
      exact Road.iretI 46 bCmp5_d46 rfl (by decide) (by decide) (fun σ' m => ⟨_, rfl, K1, Or.inl ⟨by rw [List.take_length] at hL; exact hL, rfl, by simpa using A1⟩⟩)
    | succ r ih =>
      intro k hk h w6 hw6 K1 hL A1
      have hk' : k < cs.length := by omega
      have hc := h16 _ (List.getElem_mem hk')
      have A2 := A.keep K1 (ninS hbd nin0)
      refine Road.iload 3 bCmp5_d3 rfl ?_
      refine Road.iload 5 bCmp5_d5 rfl ?_
      refine Road.icmp_ge 7 44 bCmp5_d7 rfl (fun q => absurd q (by rw [Decidable.not_not, Road.lt32 (by omega) hn]; omega)) (fun hc7 => ?_)
      refine Road.aloadN 10 bCmp5_d10 rfl ?_
      refine Road.iloadN 11 bCmp5_d11 rfl ?_
      refine Road.caload 12 k bCmp5_d12 A2 (Road.n32 (by omega)) (by rw [List.getElem?_map, List.getElem?_eq_getElem hk']; rfl) ?_
      refine Road.istore 13 #[.val (.ref b), .val (.int (Nat.toInt32 k)), .val (.ref d), .val (.int (Nat.toInt32 k)), .val (.int (Nat.toInt32 cs.length)), .val (.int (Nat.toInt32 k)), .val (.int cs[k])] bCmp5_d13 (by rcases hw6 with rfl | ⟨x, rfl⟩ <;> rfl) ?_
      refine Road.iload 15 bCmp5_d15 rfl ?_
      refine Road.sipush 17 (255 : Int32) bCmp5_d17 rfl ?_
      refine Road.icmp_le 20 26 bCmp5_d20 rfl (fun hc20 => ?_) (fun hc20 => ?_)
      · skip
        rw [Int32.lt_iff_toInt_lt, show (255 : Int32).toInt = 255 from rfl] at hc20
        refine Road.aloadN 26 bCmp5_d26 rfl ?_
        refine Road.iloadN 27 bCmp5_d27 rfl ?_
        refine Road.iload 28 bCmp5_d28 rfl ?_
        refine Road.i2b 30 bCmp5_d30 ?_
        refine Road.bastore 31 k (Int8.toInt32 (Int32.toInt8 cs[k])) bCmp5_d31 A1 (Road.n32 (by omega)) (by simp; omega) (Road.nar_byte _) sd ?_
        intro h_1 K_2 A_3
        replace A1 := A_3
        refine Road.iinc 32 (1) #[.val (.ref b), .val (.int ((Nat.toInt32 k) + 1)), .val (.ref d), .val (.int (Nat.toInt32 k)), .val (.int (Nat.toInt32 cs.length)), .val (.int (Nat.toInt32 k)), .val (.int cs[k])] bCmp5_d32 rfl rfl rfl ?_
        refine Road.iinc 35 (1) #[.val (.ref b), .val (.int ((Nat.toInt32 k) + 1)), .val (.ref d), .val (.int ((Nat.toInt32 k) + 1)), .val (.int (Nat.toInt32 cs.length)), .val (.int (Nat.toInt32 k)), .val (.int cs[k])] bCmp5_d35 rfl rfl rfl ?_
        refine Road.iinc 38 (1) #[.val (.ref b), .val (.int ((Nat.toInt32 k) + 1)), .val (.ref d), .val (.int ((Nat.toInt32 k) + 1)), .val (.int (Nat.toInt32 cs.length)), .val (.int ((Nat.toInt32 k) + 1)), .val (.int cs[k])] bCmp5_d38 rfl rfl rfl ?_
        refine Road.goto 41 3 bCmp5_d41 rfl ?_
        rw [show (Value.int (Int8.toInt32 (Int32.toInt8 cs[k]))) = Road.byt cs[k] from rfl, Road.set_mid] at A1
        have := ih (k + 1) (by omega) h_1 (.val (.int cs[k])) (Or.inr ⟨_, rfl⟩) (K1.trans K_2 (by simp)) (fun c q => by rw [List.take_succ_eq_append_getElem hk'] at q; exact (List.mem_append.mp q).elim (hL c) (fun q => by rw [List.mem_singleton.mp q]; omega)) A1
        rw [← Road.succ32] at this
        exact this
      · skip
        rw [Int32.lt_iff_toInt_lt, show (255 : Int32).toInt = 255 from rfl] at hc20
        refine Road.iload 23 bCmp5_d23 rfl ?_
        exact Road.iretI 25 bCmp5_d25 rfl (by decide) (by decide) (fun σ' m => ⟨_, rfl, K1, Or.inr ⟨k, hk', rfl, hc20⟩⟩)
  exact loop cs.length 0 (by omega) h0 .unset (Or.inl rfl) (Keep.refl _ _) (by simp) (by simpa using Dd)
def bNbl : Road.Bdy := (⟨"java/lang/StringUTF16", "newBytesLength", "(I)I"⟩, jdk_52_method_3_code, 1, (some .int), { frames := 0, cells := 0, slots := 0, locals := 0 })
theorem bNbl_d0 : decode bNbl.bs 0 = .ok (.iload_n 0, 1) := by decide +kernel
theorem bNbl_d1 : decode bNbl.bs 1 = .ok (.ifCond .ge 11, 3) := by decide +kernel
theorem bNbl_d4 : decode bNbl.bs 4 = .ok (.new 17, 3) := by decide +kernel
theorem bNbl_d7 : decode bNbl.bs 7 = .ok (.dup, 1) := by decide +kernel
theorem bNbl_d8 : decode bNbl.bs 8 = .ok (.invokespecial 19, 3) := by decide +kernel
theorem bNbl_d11 : decode bNbl.bs 11 = .ok (.athrow, 1) := by decide +kernel
theorem bNbl_d12 : decode bNbl.bs 12 = .ok (.iload_n 0, 1) := by decide +kernel
theorem bNbl_d13 : decode bNbl.bs 13 = .ok (.ldc 20, 2) := by decide +kernel
theorem bNbl_d15 : decode bNbl.bs 15 = .ok (.if_icmp .lt 40, 3) := by decide +kernel
theorem bNbl_d18 : decode bNbl.bs 18 = .ok (.new 21, 3) := by decide +kernel
theorem bNbl_d21 : decode bNbl.bs 21 = .ok (.dup, 1) := by decide +kernel
theorem bNbl_d22 : decode bNbl.bs 22 = .ok (.new 23, 3) := by decide +kernel
theorem bNbl_d25 : decode bNbl.bs 25 = .ok (.dup, 1) := by decide +kernel
theorem bNbl_d26 : decode bNbl.bs 26 = .ok (.invokespecial 25, 3) := by decide +kernel
theorem bNbl_d29 : decode bNbl.bs 29 = .ok (.ldc 26, 2) := by decide +kernel
theorem bNbl_d31 : decode bNbl.bs 31 = .ok (.invokevirtual 28, 3) := by decide +kernel
theorem bNbl_d34 : decode bNbl.bs 34 = .ok (.iload_n 0, 1) := by decide +kernel
theorem bNbl_d35 : decode bNbl.bs 35 = .ok (.invokevirtual 32, 3) := by decide +kernel
theorem bNbl_d38 : decode bNbl.bs 38 = .ok (.ldc 35, 2) := by decide +kernel
theorem bNbl_d40 : decode bNbl.bs 40 = .ok (.invokevirtual 28, 3) := by decide +kernel
theorem bNbl_d43 : decode bNbl.bs 43 = .ok (.ldc 20, 2) := by decide +kernel
theorem bNbl_d45 : decode bNbl.bs 45 = .ok (.invokevirtual 32, 3) := by decide +kernel
theorem bNbl_d48 : decode bNbl.bs 48 = .ok (.invokevirtual 37, 3) := by decide +kernel
theorem bNbl_d51 : decode bNbl.bs 51 = .ok (.invokespecial 41, 3) := by decide +kernel
theorem bNbl_d54 : decode bNbl.bs 54 = .ok (.athrow, 1) := by decide +kernel
theorem bNbl_d55 : decode bNbl.bs 55 = .ok (.iload_n 0, 1) := by decide +kernel
theorem bNbl_d56 : decode bNbl.bs 56 = .ok (.iconst 1, 1) := by decide +kernel
theorem bNbl_d57 : decode bNbl.bs 57 = .ok (.ishl, 1) := by decide +kernel
theorem bNbl_d58 : decode bNbl.bs 58 = .ok (.ireturn, 1) := by decide +kernel
theorem bNbl_pd : parseMethodDescriptor "(I)I" = some ⟨[.int], (some .int)⟩ := by decide +kernel
theorem bNbl_pn : plainFor bNbl.y = true := plainFor_of_name (show plainName "java/lang/StringUTF16" = true from by first | (simp [plainName, overriddenIn]; done) | decide +kernel)
theorem cNbl (l : Launch) (Z : State) (a0 : Array Value) (hw : ∀ d ∈ tables_1, d.before a0 Z = true) (n0 : Nat) (hEW : EW Z a0 consts_1) (n : Nat) (h0 : Heap) (σ : Addr → Prop) (hn : n < 1073741823) :
    Road.Con l Z consts_1 n0 false bNbl [] σ #[(.int (Nat.toInt32 n))] h0 (fun v h2 _ => v = some (.int (Nat.toInt32 (2 * n))) ∧ h0 = h2) := by
  refine Road.Con.of bNbl_pn hEW #[.val (.int (Nat.toInt32 n))] (fun m => Road.ent (Road.laid1 rfl Road.laid0) (k := 0) rfl rfl) ?_
  intro D hD
  refine Road.iloadN 0 bNbl_d0 rfl ?_
  refine Road.if_ge 1 12 bNbl_d1 rfl (fun hc1 => ?_) (fun q => absurd q (Road.ix_of (Road.n32 (by omega))).1)
  refine Road.iloadN 12 bNbl_d12 rfl ?_
  refine Road.ldcI 13 bNbl_d13 (wI hw 236 rfl) ?_
  refine Road.icmp_lt 15 55 bNbl_d15 rfl (fun hc15 => ?_) (fun q => absurd q (by rw [Decidable.not_not, show (1073741823 : Int32) = Nat.toInt32 1073741823 from rfl, Road.lt32 (by omega) (by omega)]; omega))
  refine Road.iloadN 55 bNbl_d55 rfl ?_
  refine Road.iconst 56 (1 : Int32) bNbl_d56 rfl ?_
  refine Road.ishl 57 bNbl_d57 ?_
  exact Road.iretI 58 bNbl_d58 rfl (by decide) (by decide) (fun σ' m => ⟨by rw [Road.shl1], rfl⟩)
def bNbf : Road.Bdy := (⟨"java/lang/StringUTF16", "newBytesFor", "(I)[B"⟩, jdk_52_method_2_code, 1, (some (.array .byte)), { frames := 1, cells := 1, slots := 4, locals := 12 })
theorem bNbf_d0 : decode bNbf.bs 0 = .ok (.iload_n 0, 1) := by decide +kernel
theorem bNbf_d1 : decode bNbf.bs 1 = .ok (.invokestatic 11, 3) := by decide +kernel
theorem bNbf_d4 : decode bNbf.bs 4 = .ok (.newarray .byte, 2) := by decide +kernel
theorem bNbf_d6 : decode bNbf.bs 6 = .ok (.areturn, 1) := by decide +kernel
theorem bNbf_pd : parseMethodDescriptor "(I)[B" = some ⟨[.int], (some (.array .byte))⟩ := by decide +kernel
theorem bNbf_pn : plainFor bNbf.y = true := plainFor_of_name (show plainName "java/lang/StringUTF16" = true from by first | (simp [plainName, overriddenIn]; done) | decide +kernel)
theorem cNbf (l : Launch) (Z : State) (a0 : Array Value) (hw : ∀ d ∈ tables_1, d.before a0 Z = true) (n0 : Nat) (hEW : EW Z a0 consts_1) (n : Nat) (h0 : Heap) (σ : Addr → Prop) (hn : n ≤ 2) :
    Road.Con l Z consts_1 n0 false bNbf [] σ #[(.int (Nat.toInt32 n))] h0 (fun v h2 s2 => ∃ d, v = some (.ref d) ∧ h0.size ≤ d ∧ Keep h0 h2 [] ∧ s2 d ∧ Road.Ary Z h2 d .byte (List.replicate (2 * n) (.int 0))) := by
  refine Road.Con.of bNbf_pn hEW #[.val (.int (Nat.toInt32 n))] (fun m => Road.ent (Road.laid1 rfl Road.laid0) (k := 0) rfl rfl) ?_
  intro D hD
  refine Road.iloadN 0 bNbf_d0 rfl ?_
  refine Road.callS (B' := bNbl) 1 (argsL := [(.int (Nat.toInt32 n))]) (rest := []) 0 bNbf_d1 (wI hw 233 rfl) (wI hw 234 rfl) (wI hw 22 rfl) (wI hw 235 rfl) (by decide) (cNbl l Z a0 hw n0 hEW n h0 σ (by omega)) (lenOf bNbl_pd rfl) rfl rfl rfl (by decide) (by decide) (ce' := 0) (sl' := 0) rfl rfl (by decide) (by decide) ?_
  rintro _ h_1 σ_2 m_3 ⟨rfl, rfl⟩
  refine Road.Go.weaken (σ' := σ) m_3 (Nat.le_refl _) (Nat.le_refl _) ?_
  refine Road.newarray 4 .byte (2 * n) 4 bNbf_d4 rfl (wI hw 24 rfl) (Road.n32 (by omega)) (by omega) (by decide) (ce' := 1) (sl' := 4) rfl rfl (by decide) (by decide) ?_
  intro d h_5 σ_6 g_7 K_8 lt_9 m_10 s_11 Ad
  exact Road.aret 6 bNbf_d6 (t := (.array .byte)) rfl rfl rfl (by decide) (by decide) (fun σ' m => ⟨d, rfl, Nat.le_of_eq g_7.symm, K_8, m _ s_11, Ad⟩)
def bTob : Road.Bdy := (⟨"java/lang/StringUTF16", "toBytes", "([CII)[B"⟩, jdk_52_method_14_code, 5, (some (.array .byte)), { frames := 2, cells := 1, slots := 4, locals := 24 })
theorem bTob_d0 : decode bTob.bs 0 = .ok (.iload_n 2, 1) := by decide +kernel
theorem bTob_d1 : decode bTob.bs 1 = .ok (.invokestatic 107, 3) := by decide +kernel
theorem bTob_d4 : decode bTob.bs 4 = .ok (.astore_n 3, 1) := by decide +kernel
theorem bTob_d5 : decode bTob.bs 5 = .ok (.iconst 0, 1) := by decide +kernel
theorem bTob_d6 : decode bTob.bs 6 = .ok (.istore 4, 2) := by decide +kernel
theorem bTob_d8 : decode bTob.bs 8 = .ok (.iload 4, 2) := by decide +kernel
theorem bTob_d10 : decode bTob.bs 10 = .ok (.iload_n 2, 1) := by decide +kernel
theorem bTob_d11 : decode bTob.bs 11 = .ok (.if_icmp .ge 21, 3) := by decide +kernel
theorem bTob_d14 : decode bTob.bs 14 = .ok (.aload_n 3, 1) := by decide +kernel
theorem bTob_d15 : decode bTob.bs 15 = .ok (.iload 4, 2) := by decide +kernel
theorem bTob_d17 : decode bTob.bs 17 = .ok (.aload_n 0, 1) := by decide +kernel
theorem bTob_d18 : decode bTob.bs 18 = .ok (.iload_n 1, 1) := by decide +kernel
theorem bTob_d19 : decode bTob.bs 19 = .ok (.caload, 1) := by decide +kernel
theorem bTob_d20 : decode bTob.bs 20 = .ok (.invokestatic 111, 3) := by decide +kernel
theorem bTob_d23 : decode bTob.bs 23 = .ok (.iinc 1 1, 3) := by decide +kernel
theorem bTob_d26 : decode bTob.bs 26 = .ok (.iinc 4 1, 3) := by decide +kernel
theorem bTob_d29 : decode bTob.bs 29 = .ok (.goto (-21), 3) := by decide +kernel
theorem bTob_d32 : decode bTob.bs 32 = .ok (.aload_n 3, 1) := by decide +kernel
theorem bTob_d33 : decode bTob.bs 33 = .ok (.areturn, 1) := by decide +kernel
theorem bTob_pd : parseMethodDescriptor "([CII)[B" = some ⟨[(.array .char), .int, .int], (some (.array .byte))⟩ := by decide +kernel
theorem bTob_pn : plainFor bTob.y = true := plainFor_of_name (show plainName "java/lang/StringUTF16" = true from by first | (simp [plainName, overriddenIn]; done) | decide +kernel)
theorem cTob (l : Launch) (Z : State) (a0 : Array Value) (hw : ∀ d ∈ tables_1, d.before a0 Z = true) (n0 : Nat) (hEW : EW Z a0 consts_1) (b : Addr) (cs : List Int32) (h0 : Heap) (σ : Addr → Prop) (A : Road.Ary Z h0 b .char (cs.map .int)) (hcap : cs.length ≤ 2) (H0 : Sta Z Z.heap "java/lang/StringUTF16" "$assertionsDisabled" "Z" (.int 1)) (H1 : Sta Z Z.heap "java/lang/StringUTF16" "HI_BYTE_SHIFT" "I" (.int 0)) (H2 : Sta Z Z.heap "java/lang/StringUTF16" "LO_BYTE_SHIFT" "I" (.int 8)) :
    Road.Con l Z consts_1 n0 false bTob [] σ #[(.ref b), (.int (0 : Int32)), (.int (Nat.toInt32 cs.length))] h0 (fun v h2 s2 => ∃ d, v = some (.ref d) ∧ h0.size ≤ d ∧ Keep h0 h2 [] ∧ s2 d ∧ Road.Ary Z h2 d .byte (Road.utf cs)) := by
  refine Road.Con.of bTob_pn hEW #[.val (.ref b), .val (.int (0 : Int32)), .val (.int (Nat.toInt32 cs.length)), .unset, .unset] (fun m => Road.ent (Road.laid1 rfl (Road.laid1 rfl (Road.laid1 rfl Road.laid0))) (k := 2) rfl rfl) ?_
  intro D hD
  refine Road.iloadN 0 bTob_d0 rfl ?_
  refine Road.callS (B' := bNbf) 1 (argsL := [(.int (Nat.toInt32 cs.length))]) (rest := []) 0 bTob_d1 (wI hw 230 rfl) (wI hw 231 rfl) (wI hw 22 rfl) (wI hw 232 rfl) (by decide) (cNbf l Z a0 hw n0 hEW cs.length h0 σ hcap) (lenOf bNbf_pd rfl) rfl rfl rfl (by decide) (by decide) (ce' := 1) (sl' := 4) rfl rfl (by decide) (by decide) ?_
  rintro _ h_1 σ_2 m_3 ⟨d, rfl, gd, K_4, sd, Ad⟩
  have ne_b_d : b ≠ d := Nat.ne_of_lt (Nat.lt_of_lt_of_le A.lt gd)
  replace A := A.keep K_4 nin0
  refine Road.astoreN 4 #[.val (.ref b), .val (.int (0 : Int32)), .val (.int (Nat.toInt32 cs.length)), .val (.ref d), .unset] bTob_d4 rfl ?_
  refine Road.iconst 5 (0 : Int32) bTob_d5 rfl ?_
  refine Road.istore 6 #[.val (.ref b), .val (.int (0 : Int32)), .val (.int (Nat.toInt32 cs.length)), .val (.ref d), .val (.int (0 : Int32))] bTob_d6 rfl ?_
  have loop : ∀ r k, k + r = cs.length → ∀ (h : Heap) (τ : Addr → Prop), τ d → Keep h0 h [] → Road.Ary Z h b .char (cs.map .int) → Road.Ary Z h d .byte (Road.utf (cs.take k) ++ List.replicate (2 * r) (.int 0)) → Road.Go l Z a0 consts_1 n0 false bTob D (fun v h2 s2 => ∃ d, v = some (.ref d) ∧ h0.size ≤ d ∧ Keep h0 h2 [] ∧ s2 d ∧ Road.Ary Z h2 d .byte (Road.utf cs)) h τ 1 4 8 #[.val (.ref b), .val (.int (Nat.toInt32 k)), .val (.int (Nat.toInt32 cs.length)), .val (.ref d), .val (.int (Nat.toInt32 k))] [] := by
    intro r
    induction r with
    | zero =>
      intro k hk h τ td K A1 A2
      have hk' : k = cs.length := by omega
      subst hk'
      refine Road.iload 8 bTob_d8 rfl ?_
      refine Road.iloadN 10 bTob_d10 rfl ?_
      refine Road.icmp_ge 11 32 bTob_d11 rfl (fun hc11 => ?_) (fun q => absurd q Int32.lt_irrefl)
      refine Road.aloadN 32 bTob_d32 rfl ?_
      rw [List.take_length, Nat.mul_zero, List.replicate_zero, List.append_nil] at A2
      exact Road.aret 33 bTob_d33 (t := (.array .byte)) rfl rfl rfl (by decide) (by decide) (fun σ' m => ⟨d, rfl, gd, K, m _ td, A2⟩)
    | succ r ih =>
      intro k hk h τ td K A1 A2
      have hk' : k < cs.length := by omega
      refine Road.iload 8 bTob_d8 rfl ?_
      refine Road.iloadN 10 bTob_d10 rfl ?_
      refine Road.icmp_ge 11 32 bTob_d11 rfl (fun q => absurd q (by rw [Decidable.not_not, Road.lt32 (by omega) (by omega)]; omega)) (fun hc11 => ?_)
      refine Road.aloadN 14 bTob_d14 rfl ?_
      refine Road.iload 15 bTob_d15 rfl ?_
      refine Road.aloadN 17 bTob_d17 rfl ?_
      refine Road.iloadN 18 bTob_d18 rfl ?_
      refine Road.caload 19 k bTob_d19 A1 (Road.n32 (by omega)) (by rw [List.getElem?_map, List.getElem?_eq_getElem hk']; rfl) ?_
      refine Road.callS (B' := bPch) 20 (argsL := [(.ref d), (.int (Nat.toInt32 k)), (.int cs[k])]) (rest := []) 0 bTob_d20 (wI hw 237 rfl) (wI hw 238 rfl) (wI hw 22 rfl) (wI hw 239 rfl) (by decide) (cPch l Z a0 hw n0 hEW d _ k cs[k] h τ A2 (by rw [List.length_append, Road.utf_len, List.length_take, List.length_replicate]; omega) td H0 H1 H2) (lenOf bPch_pd rfl) rfl rfl rfl (by decide) (by decide) (ce' := 1) (sl' := 4) rfl rfl (by decide) (by decide) ?_
      rintro _ h_5 σ_6 m_7 ⟨rfl, K_8, A3⟩
      replace A1 := A1.keep K_8 (ninS ne_b_d nin0)
      replace td := m_7 _ td
      refine Road.iinc 23 (1) #[.val (.ref b), .val (.int ((Nat.toInt32 k) + 1)), .val (.int (Nat.toInt32 cs.length)), .val (.ref d), .val (.int (Nat.toInt32 k))] bTob_d23 rfl rfl rfl ?_
      refine Road.iinc 26 (1) #[.val (.ref b), .val (.int ((Nat.toInt32 k) + 1)), .val (.int (Nat.toInt32 cs.length)), .val (.ref d), .val (.int ((Nat.toInt32 k) + 1))] bTob_d26 rfl rfl rfl ?_
      refine Road.goto 29 8 bTob_d29 rfl ?_
      rw [Road.utf_put _ _ _ hk'] at A3
      have := ih (k + 1) (by omega) h_5 σ_6 td (K.trans K_8 (by intro z hz; cases List.mem_singleton.mp hz; exact Or.inr gd)) A1 A3
      rw [← Road.succ32] at this
      exact this
  exact loop cs.length 0 (by omega) h_1 σ_2 sd K_4 A (by simpa [Road.utf] using Ad)
def bCmp4 : Road.Bdy := (⟨"java/lang/StringUTF16", "compress", "([CII)[B"⟩, jdk_52_method_16_code, 6, (some (.array .byte)), { frames := 3, cells := 2, slots := 6, locals := 40 })
theorem bCmp4_d0 : decode bCmp4.bs 0 = .ok (.iload_n 2, 1) := by decide +kernel
theorem bCmp4_d1 : decode bCmp4.bs 1 = .ok (.newarray .byte, 2) := by decide +kernel
theorem bCmp4_d3 : decode bCmp4.bs 3 = .ok (.astore_n 3, 1) := by decide +kernel
theorem bCmp4_d4 : decode bCmp4.bs 4 = .ok (.aload_n 0, 1) := by decide +kernel
theorem bCmp4_d5 : decode bCmp4.bs 5 = .ok (.iload_n 1, 1) := by decide +kernel
theorem bCmp4_d6 : decode bCmp4.bs 6 = .ok (.aload_n 3, 1) := by decide +kernel
theorem bCmp4_d7 : decode bCmp4.bs 7 = .ok (.iconst 0, 1) := by decide +kernel
theorem bCmp4_d8 : decode bCmp4.bs 8 = .ok (.iload_n 2, 1) := by decide +kernel
theorem bCmp4_d9 : decode bCmp4.bs 9 = .ok (.invokestatic 115, 3) := by decide +kernel
theorem bCmp4_d12 : decode bCmp4.bs 12 = .ok (.istore 4, 2) := by decide +kernel
theorem bCmp4_d14 : decode bCmp4.bs 14 = .ok (.iload 4, 2) := by decide +kernel
theorem bCmp4_d16 : decode bCmp4.bs 16 = .ok (.iload_n 2, 1) := by decide +kernel
theorem bCmp4_d17 : decode bCmp4.bs 17 = .ok (.if_icmp .eq 40, 3) := by decide +kernel
theorem bCmp4_d20 : decode bCmp4.bs 20 = .ok (.aload_n 0, 1) := by decide +kernel
theorem bCmp4_d21 : decode bCmp4.bs 21 = .ok (.iload_n 1, 1) := by decide +kernel
theorem bCmp4_d22 : decode bCmp4.bs 22 = .ok (.iload_n 2, 1) := by decide +kernel
theorem bCmp4_d23 : decode bCmp4.bs 23 = .ok (.invokestatic 119, 3) := by decide +kernel
theorem bCmp4_d26 : decode bCmp4.bs 26 = .ok (.astore 5, 2) := by decide +kernel
theorem bCmp4_d28 : decode bCmp4.bs 28 = .ok (.aload 5, 2) := by decide +kernel
theorem bCmp4_d30 : decode bCmp4.bs 30 = .ok (.iload 4, 2) := by decide +kernel
theorem bCmp4_d32 : decode bCmp4.bs 32 = .ok (.invokestatic 71, 3) := by decide +kernel
theorem bCmp4_d35 : decode bCmp4.bs 35 = .ok (.sipush 255, 3) := by decide +kernel
theorem bCmp4_d38 : decode bCmp4.bs 38 = .ok (.if_icmp .gt 16, 3) := by decide +kernel
theorem bCmp4_d41 : decode bCmp4.bs 41 = .ok (.aload 5, 2) := by decide +kernel
theorem bCmp4_d43 : decode bCmp4.bs 43 = .ok (.iconst 0, 1) := by decide +kernel
theorem bCmp4_d44 : decode bCmp4.bs 44 = .ok (.aload_n 3, 1) := by decide +kernel
theorem bCmp4_d45 : decode bCmp4.bs 45 = .ok (.iconst 0, 1) := by decide +kernel
theorem bCmp4_d46 : decode bCmp4.bs 46 = .ok (.iload_n 2, 1) := by decide +kernel
theorem bCmp4_d47 : decode bCmp4.bs 47 = .ok (.invokestatic 123, 3) := by decide +kernel
theorem bCmp4_d50 : decode bCmp4.bs 50 = .ok (.iload_n 2, 1) := by decide +kernel
theorem bCmp4_d51 : decode bCmp4.bs 51 = .ok (.if_icmp .eq 6, 3) := by decide +kernel
theorem bCmp4_d54 : decode bCmp4.bs 54 = .ok (.aload 5, 2) := by decide +kernel
theorem bCmp4_d56 : decode bCmp4.bs 56 = .ok (.areturn, 1) := by decide +kernel
theorem bCmp4_d57 : decode bCmp4.bs 57 = .ok (.aload_n 3, 1) := by decide +kernel
theorem bCmp4_d58 : decode bCmp4.bs 58 = .ok (.areturn, 1) := by decide +kernel
theorem bCmp4_pd : parseMethodDescriptor "([CII)[B" = some ⟨[(.array .char), .int, .int], (some (.array .byte))⟩ := by decide +kernel
theorem bCmp4_pn : plainFor bCmp4.y = true := plainFor_of_name (show plainName "java/lang/StringUTF16" = true from by first | (simp [plainName, overriddenIn]; done) | decide +kernel)
theorem cCmp4 (l : Launch) (Z : State) (a0 : Array Value) (hw : ∀ d ∈ tables_1, d.before a0 Z = true) (n0 : Nat) (hEW : EW Z a0 consts_1) (b : Addr) (cs : List Int32) (h0 : Heap) (σ : Addr → Prop) (A : Road.Ary Z h0 b .char (cs.map .int)) (hcap : cs.length ≤ 2) (h16 : ∀ c ∈ cs, 0 ≤ c.toInt ∧ c.toInt < 65536) (H0 : Sta Z Z.heap "java/lang/StringUTF16" "$assertionsDisabled" "Z" (.int 1)) (H1 : Sta Z Z.heap "java/lang/StringUTF16" "HI_BYTE_SHIFT" "I" (.int 0)) (H2 : Sta Z Z.heap "java/lang/StringUTF16" "LO_BYTE_SHIFT" "I" (.int 8)) :
    Road.Con l Z consts_1 n0 false bCmp4 [] σ #[(.ref b), (.int (0 : Int32)), (.int (Nat.toInt32 cs.length))] h0 (fun v h2 s2 => ∃ d, v = some (.ref d) ∧ h0.size ≤ d ∧ Keep h0 h2 [] ∧ s2 d ∧ (((∀ c ∈ cs, 0 ≤ c.toInt ∧ c.toInt < 256) ∧ Road.Ary Z h2 d .byte (cs.map Road.byt)) ∨ ((∃ k, k < cs.length) ∧ Road.Ary Z h2 d .byte (Road.utf cs)))) := by
  refine Road.Con.of bCmp4_pn hEW #[.val (.ref b), .val (.int (0 : Int32)), .val (.int (Nat.toInt32 cs.length)), .unset, .unset, .unset] (fun m => Road.ent (Road.laid1 rfl (Road.laid1 rfl (Road.laid1 rfl Road.laid0))) (k := 3) rfl rfl) ?_
  intro D hD
  have KT := Keep.refl h0 ([] : List Addr)
  refine Road.iloadN 0 bCmp4_d0 rfl ?_
  refine Road.newarray 1 .byte cs.length 2 bCmp4_d1 rfl (wI hw 24 rfl) (Road.n32 (by omega)) hcap (by decide) (ce' := 1) (sl' := 2) rfl rfl (by decide) (by decide) ?_
  intro d h_1 σ_2 g_3 K_4 lt_5 m_6 s_7 Ad
  have gk_d := Nat.le_trans KT.1 (Nat.le_of_eq g_3.symm)
  have ne_b_d : b ≠ d := Nat.ne_of_lt (Nat.lt_of_lt_of_le A.lt (Nat.le_of_eq g_3.symm))
  replace KT := KT.trans K_4 (by simp)
  replace A := A.keep K_4 nin0
  refine Road.astoreN 3 #[.val (.ref b), .val (.int (0 : Int32)), .val (.int (Nat.toInt32 cs.length)), .val (.ref d), .unset, .unset] bCmp4_d3 rfl ?_
  refine Road.aloadN 4 bCmp4_d4 rfl ?_
  refine Road.iloadN 5 bCmp4_d5 rfl ?_
  refine Road.aloadN 6 bCmp4_d6 rfl ?_
  refine Road.iconst 7 (0 : Int32) bCmp4_d7 rfl ?_
  refine Road.iloadN 8 bCmp4_d8 rfl ?_
  refine Road.callS (B' := bCmp5) 9 (argsL := [(.ref b), (.int (0 : Int32)), (.ref d), (.int (0 : Int32)), (.int (Nat.toInt32 cs.length))]) (rest := []) 0 bCmp4_d9 (wI hw 25 rfl) (wI hw 26 rfl) (wI hw 22 rfl) (wI hw 27 rfl) (by decide) (cCmp5 l Z a0 hw n0 hEW b d cs h_1 σ_2 A Ad h16 ne_b_d s_7) (lenOf bCmp5_pd rfl) rfl rfl rfl (by decide) (by decide) (ce' := 1) (sl' := 2) rfl rfl (by decide) (by decide) ?_
  rintro _ h_8 σ_9 m_10 ⟨x, rfl, K_11, hq⟩
  replace KT := KT.trans K_11 (by intro z hz; simp only [List.mem_cons, List.not_mem_nil, or_false] at hz; rcases hz with rfl <;> first | (exact Or.inr (by assumption)) | (simp; done))
  replace A := A.keep K_11 (ninS ne_b_d nin0)
  replace s_7 := m_10 _ s_7
  rcases hq with ⟨hlat, rfl, Ad2⟩ | ⟨k, hk, rfl, hbig⟩
  · skip
    refine Road.istore 12 #[.val (.ref b), .val (.int (0 : Int32)), .val (.int (Nat.toInt32 cs.length)), .val (.ref d), .val (.int (Nat.toInt32 cs.length)), .unset] bCmp4_d12 rfl ?_
    refine Road.iload 14 bCmp4_d14 rfl ?_
    refine Road.iloadN 16 bCmp4_d16 rfl ?_
    refine Road.icmp_eq 17 57 bCmp4_d17 rfl (fun hc17 => ?_) (fun q => absurd q (by simp))
    refine Road.aloadN 57 bCmp4_d57 rfl ?_
    exact Road.aret 58 bCmp4_d58 (t := (.array .byte)) rfl rfl rfl (by decide) (by decide) (fun σ' m => ⟨d, rfl, gk_d, KT, m _ s_7, Or.inl ⟨hlat, Ad2⟩⟩)
  · skip
    refine Road.istore 12 #[.val (.ref b), .val (.int (0 : Int32)), .val (.int (Nat.toInt32 cs.length)), .val (.ref d), .val (.int (Nat.toInt32 k)), .unset] bCmp4_d12 rfl ?_
    refine Road.iload 14 bCmp4_d14 rfl ?_
    refine Road.iloadN 16 bCmp4_d16 rfl ?_
    refine Road.icmp_eq 17 57 bCmp4_d17 rfl (fun q => absurd q (by rw [Road.eq32 (by omega) (by omega)]; omega)) (fun hc17 => ?_)
    refine Road.aloadN 20 bCmp4_d20 rfl ?_
    refine Road.iloadN 21 bCmp4_d21 rfl ?_
    refine Road.iloadN 22 bCmp4_d22 rfl ?_
    refine Road.callS (B' := bTob) 23 (argsL := [(.ref b), (.int (0 : Int32)), (.int (Nat.toInt32 cs.length))]) (rest := []) 0 bCmp4_d23 (wI hw 227 rfl) (wI hw 228 rfl) (wI hw 22 rfl) (wI hw 229 rfl) (by decide) (cTob l Z a0 hw n0 hEW b cs h_8 σ_9 A hcap H0 H1 H2) (lenOf bTob_pd rfl) rfl rfl rfl (by decide) (by decide) (ce' := 2) (sl' := 6) rfl rfl (by decide) (by decide) ?_
    rintro _ h_13 σ_14 m_15 ⟨e, rfl, ge, K_16, se, Ae⟩
    have gk_e := Nat.le_trans KT.1 ge
    have ne_b_e : b ≠ e := Nat.ne_of_lt (Nat.lt_of_lt_of_le A.lt ge)
    replace KT := KT.trans K_16 (by simp)
    replace A := A.keep K_16 nin0
    replace s_7 := m_15 _ s_7
    refine Road.astore 26 #[.val (.ref b), .val (.int (0 : Int32)), .val (.int (Nat.toInt32 cs.length)), .val (.ref d), .val (.int (Nat.toInt32 k)), .val (.ref e)] bCmp4_d26 rfl ?_
    refine Road.aload 28 bCmp4_d28 rfl ?_
    refine Road.iload 30 bCmp4_d30 rfl ?_
    refine Road.callS (B' := bGch16) 32 (argsL := [(.ref e), (.int (Nat.toInt32 k))]) (rest := []) 0 bCmp4_d32 (wI hw 243 rfl) (wI hw 244 rfl) (wI hw 22 rfl) (wI hw 245 rfl) (by decide) (cGch16 l Z a0 hw n0 hEW e cs k h_13 σ_14 Ae hk h16 H0 H1 H2) (lenOf bGch16_pd rfl) rfl rfl rfl (by decide) (by decide) (ce' := 2) (sl' := 6) rfl rfl (by decide) (by decide) ?_
    rintro _ h_18 σ_19 m_20 ⟨rfl, rfl⟩
    refine Road.Go.weaken (σ' := σ_14) m_20 (Nat.le_refl _) (Nat.le_refl _) ?_
    refine Road.sipush 35 (255 : Int32) bCmp4_d35 rfl ?_
    refine Road.icmp_gt 38 54 bCmp4_d38 rfl (fun hc38 => ?_) (fun q => absurd q (by rw [Decidable.not_not, Int32.lt_iff_toInt_lt, show (255 : Int32).toInt = 255 from rfl]; exact hbig))
    refine Road.aload 54 bCmp4_d54 rfl ?_
    exact Road.aret 56 bCmp4_d56 (t := (.array .byte)) rfl rfl rfl (by decide) (by decide) (fun σ' m => ⟨e, rfl, gk_e, KT, m _ se, Or.inr ⟨⟨k, hk⟩, Ae⟩⟩)
def bCfa : Road.Bdy := (⟨"java/lang/StringUTF16", "coderFromArrayLen", "([BI)B"⟩, jdk_52_method_15_code, 2, (some .byte), { frames := 0, cells := 0, slots := 0, locals := 0 })
theorem bCfa_d0 : decode bCfa.bs 0 = .ok (.iload_n 1, 1) := by decide +kernel
theorem bCfa_d1 : decode bCfa.bs 1 = .ok (.aload_n 0, 1) := by decide +kernel
theorem bCfa_d2 : decode bCfa.bs 2 = .ok (.arraylength, 1) := by decide +kernel
theorem bCfa_d3 : decode bCfa.bs 3 = .ok (.isub, 1) := by decide +kernel
theorem bCfa_d4 : decode bCfa.bs 4 = .ok (.bipush 31, 2) := by decide +kernel
theorem bCfa_d6 : decode bCfa.bs 6 = .ok (.iushr, 1) := by decide +kernel
theorem bCfa_d7 : decode bCfa.bs 7 = .ok (.i2b, 1) := by decide +kernel
theorem bCfa_d8 : decode bCfa.bs 8 = .ok (.ireturn, 1) := by decide +kernel
theorem bCfa_pd : parseMethodDescriptor "([BI)B" = some ⟨[(.array .byte), .int], (some .byte)⟩ := by decide +kernel
theorem bCfa_pn : plainFor bCfa.y = true := plainFor_of_name (show plainName "java/lang/StringUTF16" = true from by first | (simp [plainName, overriddenIn]; done) | decide +kernel)
theorem cCfa (l : Launch) (Z : State) (a0 : Array Value) (hw : ∀ d ∈ tables_1, d.before a0 Z = true) (n0 : Nat) (hEW : EW Z a0 consts_1) (d : Addr) (vs : List Value) (n : Nat) (h0 : Heap) (σ : Addr → Prop) (A : Road.Ary Z h0 d .byte vs) (hn : vs.length = n ∨ (vs.length = 2 * n ∧ 0 < n ∧ n < 1000)) :
    Road.Con l Z consts_1 n0 false bCfa [] σ #[(.ref d), (.int (Nat.toInt32 n))] h0 (fun v h2 _ => v = some (.int (if vs.length = n then 0 else 1)) ∧ h0 = h2) := by
  refine Road.Con.of bCfa_pn hEW #[.val (.ref d), .val (.int (Nat.toInt32 n))] (fun m => Road.ent (Road.laid1 rfl (Road.laid1 rfl Road.laid0)) (k := 0) rfl rfl) ?_
  intro D hD
  refine Road.iloadN 0 bCfa_d0 rfl ?_
  refine Road.aloadN 1 bCfa_d1 rfl ?_
  refine Road.alen 2 (Nat.toInt32 vs.length) bCfa_d2 A (n := vs.length) rfl rfl ?_
  refine Road.isub 3 bCfa_d3 ?_
  refine Road.bipush 4 (31 : Int32) bCfa_d4 rfl ?_
  refine Road.iushr 6 bCfa_d6 ?_
  refine Road.i2b 7 bCfa_d7 ?_
  refine Road.iret 8 (if vs.length = n then 0 else 1) bCfa_d8 (t := .byte) rfl (by simp) ?_ (by decide) (by decide) (fun σ' m => ⟨rfl, rfl⟩)
  rcases hn with hn | ⟨hn, h0n, hn2⟩
  · rw [if_pos hn, hn, Int32.sub_self]; rfl
  · rw [if_neg (by omega), hn]; exact Road.cfa16 h0n hn2
def bStr2 : Road.Bdy := (⟨"java/lang/String", "<init>", "([CIILjava/lang/Void;)V"⟩, jdk_42_method_149_code, 6, none, { frames := 4, cells := 4, slots := 8, locals := 58 })
theorem bStr2_d0 : decode bStr2.bs 0 = .ok (.aload_n 0, 1) := by decide +kernel
theorem bStr2_d1 : decode bStr2.bs 1 = .ok (.invokespecial 1, 3) := by decide +kernel
theorem bStr2_d4 : decode bStr2.bs 4 = .ok (.iload_n 3, 1) := by decide +kernel
theorem bStr2_d5 : decode bStr2.bs 5 = .ok (.ifCond .ne 22, 3) := by decide +kernel
theorem bStr2_d8 : decode bStr2.bs 8 = .ok (.aload_n 0, 1) := by decide +kernel
theorem bStr2_d9 : decode bStr2.bs 9 = .ok (.ldc 7, 2) := by decide +kernel
theorem bStr2_d11 : decode bStr2.bs 11 = .ok (.getfield 9, 3) := by decide +kernel
theorem bStr2_d14 : decode bStr2.bs 14 = .ok (.putfield 9, 3) := by decide +kernel
theorem bStr2_d17 : decode bStr2.bs 17 = .ok (.aload_n 0, 1) := by decide +kernel
theorem bStr2_d18 : decode bStr2.bs 18 = .ok (.ldc 7, 2) := by decide +kernel
theorem bStr2_d20 : decode bStr2.bs 20 = .ok (.getfield 15, 3) := by decide +kernel
theorem bStr2_d23 : decode bStr2.bs 23 = .ok (.putfield 15, 3) := by decide +kernel
theorem bStr2_d26 : decode bStr2.bs 26 = .ok (.return_, 1) := by decide +kernel
theorem bStr2_d27 : decode bStr2.bs 27 = .ok (.getstatic 38, 3) := by decide +kernel
theorem bStr2_d30 : decode bStr2.bs 30 = .ok (.ifCond .eq 28, 3) := by decide +kernel
theorem bStr2_d33 : decode bStr2.bs 33 = .ok (.aload_n 1, 1) := by decide +kernel
theorem bStr2_d34 : decode bStr2.bs 34 = .ok (.iload_n 2, 1) := by decide +kernel
theorem bStr2_d35 : decode bStr2.bs 35 = .ok (.iload_n 3, 1) := by decide +kernel
theorem bStr2_d36 : decode bStr2.bs 36 = .ok (.invokestatic 177, 3) := by decide +kernel
theorem bStr2_d39 : decode bStr2.bs 39 = .ok (.astore 5, 2) := by decide +kernel
theorem bStr2_d41 : decode bStr2.bs 41 = .ok (.aload_n 0, 1) := by decide +kernel
theorem bStr2_d42 : decode bStr2.bs 42 = .ok (.aload 5, 2) := by decide +kernel
theorem bStr2_d44 : decode bStr2.bs 44 = .ok (.iload_n 3, 1) := by decide +kernel
theorem bStr2_d45 : decode bStr2.bs 45 = .ok (.invokestatic 47, 3) := by decide +kernel
theorem bStr2_d48 : decode bStr2.bs 48 = .ok (.putfield 15, 3) := by decide +kernel
theorem bStr2_d51 : decode bStr2.bs 51 = .ok (.aload_n 0, 1) := by decide +kernel
theorem bStr2_d52 : decode bStr2.bs 52 = .ok (.aload 5, 2) := by decide +kernel
theorem bStr2_d54 : decode bStr2.bs 54 = .ok (.putfield 9, 3) := by decide +kernel
theorem bStr2_d57 : decode bStr2.bs 57 = .ok (.return_, 1) := by decide +kernel
theorem bStr2_d58 : decode bStr2.bs 58 = .ok (.aload_n 0, 1) := by decide +kernel
theorem bStr2_d59 : decode bStr2.bs 59 = .ok (.iconst 1, 1) := by decide +kernel
theorem bStr2_d60 : decode bStr2.bs 60 = .ok (.putfield 15, 3) := by decide +kernel
theorem bStr2_d63 : decode bStr2.bs 63 = .ok (.aload_n 0, 1) := by decide +kernel
theorem bStr2_d64 : decode bStr2.bs 64 = .ok (.aload_n 1, 1) := by decide +kernel
theorem bStr2_d65 : decode bStr2.bs 65 = .ok (.iload_n 2, 1) := by decide +kernel
theorem bStr2_d66 : decode bStr2.bs 66 = .ok (.iload_n 3, 1) := by decide +kernel
theorem bStr2_d67 : decode bStr2.bs 67 = .ok (.invokestatic 180, 3) := by decide +kernel
theorem bStr2_d70 : decode bStr2.bs 70 = .ok (.putfield 9, 3) := by decide +kernel
theorem bStr2_d73 : decode bStr2.bs 73 = .ok (.return_, 1) := by decide +kernel
theorem bStr2_pd : parseMethodDescriptor "([CIILjava/lang/Void;)V" = some ⟨[(.array .char), .int, .int, (.object "java/lang/Void")], none⟩ := by decide +kernel
theorem bStr2_pn : plainFor bStr2.y = true := plainFor_of_name (show plainName "java/lang/String" = true from by first | (simp [plainName, overriddenIn]; done) | decide +kernel)
theorem cStr2 (l : Launch) (Z : State) (a0 : Array Value) (hw : ∀ d ∈ tables_1, d.before a0 Z = true) (n0 : Nat) (hEW : EW Z a0 consts_1) (a b : Addr) (cs : List Int32) (h0 : Heap) (σ : Addr → Prop) (E : Exa Z h0 a Road.SN) (Fc : Fld Z h0 a Road.SN "coder" "B" (.int 0)) (Fv : Fld Z h0 a Road.SN "value" "[B" .null) (A : Road.Ary Z h0 b .char (cs.map .int)) (hcap : cs.length ≤ 2) (h16 : ∀ c ∈ cs, 0 ≤ c.toInt ∧ c.toInt < 65536) (sa : σ a) (cp : Int32) (Hc : Sta Z Z.heap Road.SN "COMPACT_STRINGS" "Z" (.int cp)) (hcp : ¬ cp = 0) (H0 : Sta Z Z.heap "java/lang/StringUTF16" "$assertionsDisabled" "Z" (.int 1)) (H1 : Sta Z Z.heap "java/lang/StringUTF16" "HI_BYTE_SHIFT" "I" (.int 0)) (H2 : Sta Z Z.heap "java/lang/StringUTF16" "LO_BYTE_SHIFT" "I" (.int 8)) :
    Road.Con l Z consts_1 n0 false bStr2 [] σ #[(.ref a), (.ref b), (.int (0 : Int32)), (.int (Nat.toInt32 cs.length)), .null] h0 (fun v h2 s2 => v = none ∧ Keep h0 h2 [a] ∧ ∃ d, Road.StrX Z h2 a d cs) := by
  have wS : ∀ d ∈ Bundle.stringAtoms, d.before a0 Z = true := fun d hd => hw d ((by decide +kernel : ∀ d ∈ Bundle.stringAtoms, d ∈ tables_1) d hd)
  have nab : a ≠ b := by obtain ⟨c, Ar, -⟩ := A; exact ne_arr E (wI hw 6 rfl) Ar
  refine Road.Con.of bStr2_pn hEW #[.val (.ref a), .val (.ref b), .val (.int (0 : Int32)), .val (.int (Nat.toInt32 cs.length)), .val .null, .unset] (fun m => Road.ent (Road.laid1 rfl (Road.laid1 rfl (Road.laid1 rfl (Road.laid1 rfl (Road.laid1 rfl Road.laid0))))) (k := 1) rfl rfl) ?_
  intro D hD
  refine Road.aloadN 0 bStr2_d0 rfl ?_
  refine Road.initObj 1 bStr2_d1 (wI hw 16 rfl) (wI hw 17 rfl) (wI hw 18 rfl) 0 rfl rfl (by decide) (by decide) ?_
  refine Road.iloadN 4 bStr2_d4 rfl ?_
  refine Road.if_ne 5 27 bStr2_d5 rfl (fun hc5 => ?_) (fun hc5 => ?_)
  · skip
    have hpos : 0 < cs.length := Nat.pos_of_ne_zero (fun q => hc5 (by rw [q]; rfl))
    refine Road.getstatic 27 bStr2_d27 (wI hw 19 rfl) Via.refl Hc ?_
    refine Road.if_eq 30 58 bStr2_d30 rfl (fun q => absurd q hcp) (fun hc30 => ?_)
    refine Road.aloadN 33 bStr2_d33 rfl ?_
    refine Road.iloadN 34 bStr2_d34 rfl ?_
    refine Road.iloadN 35 bStr2_d35 rfl ?_
    refine Road.callS (B' := bCmp4) 36 (argsL := [(.ref b), (.int (0 : Int32)), (.int (Nat.toInt32 cs.length))]) (rest := []) 0 bStr2_d36 (wI hw 20 rfl) (wI hw 21 rfl) (wI hw 22 rfl) (wI hw 23 rfl) (by decide) (cCmp4 l Z a0 hw n0 hEW b cs h0 σ A hcap h16 H0 H1 H2) (lenOf bCmp4_pd rfl) rfl rfl rfl (by decide) (by decide) (ce' := 2) (sl' := 6) rfl rfl (by decide) (by decide) ?_
    rintro _ h_1 σ_2 m_3 ⟨d, rfl, gd, K_4, sd, hq⟩
    have ne_a_d : a ≠ d := Nat.ne_of_lt (Nat.lt_of_lt_of_le E.lt gd)
    have ne_b_d : b ≠ d := Nat.ne_of_lt (Nat.lt_of_lt_of_le A.lt gd)
    replace E := E.keep K_4
    replace Fc := Fc.keep K_4 nin0
    replace Fv := Fv.keep K_4 nin0
    replace A := A.keep K_4 nin0
    replace sa := m_3 _ sa
    refine Road.astore 39 #[.val (.ref a), .val (.ref b), .val (.int (0 : Int32)), .val (.int (Nat.toInt32 cs.length)), .val .null, .val (.ref d)] bStr2_d39 rfl ?_
    refine Road.aloadN 41 bStr2_d41 rfl ?_
    refine Road.aload 42 bStr2_d42 rfl ?_
    refine Road.iloadN 44 bStr2_d44 rfl ?_
    obtain ⟨vs, Ad, hv, hfin⟩ : ∃ vs, Road.Ary Z h_1 d .byte vs ∧ (vs.length = cs.length ∨ (vs.length = 2 * cs.length ∧ 0 < cs.length ∧ cs.length < 1000)) ∧ ((vs.length = cs.length ∧ (∀ c ∈ cs, 0 ≤ c.toInt ∧ c.toInt < 256) ∧ vs = cs.map Road.byt) ∨ (¬ vs.length = cs.length ∧ vs = Road.utf cs)) := by
      rcases hq with ⟨h1, h2⟩ | ⟨-, h2⟩
      · exact ⟨_, h2, Or.inl (List.length_map _), Or.inl ⟨List.length_map _, h1, rfl⟩⟩
      · exact ⟨_, h2, Or.inr ⟨Road.utf_len cs, hpos, by omega⟩, Or.inr ⟨by rw [Road.utf_len]; omega, rfl⟩⟩
    refine Road.callS (B' := bCfa) 45 (argsL := [(.ref d), (.int (Nat.toInt32 cs.length))]) (rest := [(.ref a)]) 1 bStr2_d45 (wI hw 28 rfl) (wI hw 29 rfl) (wI hw 22 rfl) (wI hw 30 rfl) (by decide) (cCfa l Z a0 hw n0 hEW d vs cs.length h_1 σ_2 Ad hv) (lenOf bCfa_pd rfl) rfl rfl rfl (by decide) (by decide) (ce' := 2) (sl' := 6) rfl rfl (by decide) (by decide) ?_
    rintro _ h_6 σ_7 m_8 ⟨rfl, rfl⟩
    refine Road.Go.weaken (σ' := σ_2) m_8 (Nat.le_refl _) (Nat.le_refl _) ?_
    refine Road.putfield 48 bStr2_d48 (wI hw 31 rfl) Via.refl Fc E (Or.inr ⟨(wI hw 32 rfl), rfl, rfl⟩) (wI hw 6 rfl) (ty := .byte) (by decide) (by split <;> rfl) (by split <;> rfl) sa ?_
    intro h_12 W_10 K_11
    replace Fc := Fc.same W_10
    replace Fv := Fv.other W_10 (Or.inr (slot_ne (Or.inr (wI hw 34 rfl)) (Or.inr (wI hw 32 rfl)) (by decide) (t := (.array .byte)) (by decide) (t' := .byte) (by decide)))
    replace E := E.keep K_11
    replace A := A.keep K_11 (ninS (Ne.symm nab) nin0)
    replace Ad := Ad.keep K_11 (ninS (Ne.symm ne_a_d) nin0)
    refine Road.aloadN 51 bStr2_d51 rfl ?_
    refine Road.aload 52 bStr2_d52 rfl ?_
    refine Road.putfield 54 bStr2_d54 (wI hw 33 rfl) Via.refl Fv E (Or.inr ⟨(wI hw 34 rfl), rfl, rfl⟩) (wI hw 6 rfl) (ty := (.array .byte)) (by decide) rfl rfl sa ?_
    intro h_15 W_13 K_14
    replace Fv := Fv.same W_13
    replace Fc := Fc.other W_13 (Or.inr (slot_ne (Or.inr (wI hw 32 rfl)) (Or.inr (wI hw 34 rfl)) (by decide) (t := .byte) (by decide) (t' := (.array .byte)) (by decide)))
    replace E := E.keep K_14
    replace A := A.keep K_14 (ninS (Ne.symm nab) nin0)
    replace Ad := Ad.keep K_14 (ninS (Ne.symm ne_a_d) nin0)
    exact Road.ret 57 bStr2_d57 rfl (by decide) (by decide) (fun σ' m => ⟨rfl, ((Road.keep_more (ws := [a]) K_4).trans K_11 (by simp)).trans K_14 (by simp), d, hfin.elim (fun q => Or.inl ⟨E, by have F := Fc; rw [if_pos q.1] at F; exact F, Fv, by rw [← q.2.2]; exact Ad, q.2.1⟩) (fun q => Or.inr ⟨E, by have F := Fc; rw [if_neg q.1] at F; exact F, Fv, by rw [← q.2]; exact Ad, h16, hpos⟩)⟩)
  · skip
    have hc0 : cs = [] := List.eq_nil_of_length_eq_zero (by have := (Road.eq32 (i := cs.length) (j := 0) (by omega) (by omega)).mp hc5; exact this)
    subst hc0
    refine Road.aloadN 8 bStr2_d8 rfl ?_
    refine Road.ldcS 9 "" [] 0 bStr2_d9 (wI hw 35 rfl) wS (List.mem_of_getElem? (i := 0) rfl) (by decide) (by decide +kernel) (by decide) (by decide) (by decide) (ce' := 2) (sl' := 4) rfl rfl (by decide) (by decide) ?_
    intro a1 b1 h_16 σ_17 K_18 m_19 S1 q_20
    replace E := E.keep K_18
    replace Fc := Fc.keep K_18 nin0
    replace Fv := Fv.keep K_18 nin0
    replace A := A.keep K_18 nin0
    replace sa := m_19 _ sa
    have ne_a_a1 : a ≠ a1 := (q_20 a sa).1
    have ne_a_b1 : a ≠ b1 := (q_20 a sa).2
    refine Road.getfield 11 bStr2_d11 (wI hw 33 rfl) Via.refl S1.2.2.1 ?_
    refine Road.putfield 14 bStr2_d14 (wI hw 33 rfl) Via.refl Fv E (Or.inr ⟨(wI hw 34 rfl), rfl, rfl⟩) (wI hw 6 rfl) (ty := (.array .byte)) (by decide) rfl rfl sa ?_
    intro h_24 W_22 K_23
    replace Fv := Fv.same W_22
    replace Fc := Fc.other W_22 (Or.inr (slot_ne (Or.inr (wI hw 32 rfl)) (Or.inr (wI hw 34 rfl)) (by decide) (t := .byte) (by decide) (t' := (.array .byte)) (by decide)))
    replace E := E.keep K_23
    replace A := A.keep K_23 (ninS (Ne.symm nab) nin0)
    replace S1 := S1.keep K_23 (ninS (Ne.symm ne_a_a1) nin0) (ninS (Ne.symm ne_a_b1) nin0)
    refine Road.aloadN 17 bStr2_d17 rfl ?_
    refine Road.ldcS 18 "" [] 0 bStr2_d18 (wI hw 35 rfl) wS (List.mem_of_getElem? (i := 0) rfl) (by decide) (by decide +kernel) (by decide) (by decide) (by decide) (ce' := 4) (sl' := 8) rfl rfl (by decide) (by decide) ?_
    intro a2 b2 h_25 σ_26 K_27 m_28 S2 q_29
    replace E := E.keep K_27
    replace Fc := Fc.keep K_27 nin0
    replace Fv := Fv.keep K_27 nin0
    replace A := A.keep K_27 nin0
    replace S1 := S1.keep K_27 nin0 nin0
    replace sa := m_28 _ sa
    have ne_a_a2 : a ≠ a2 := (q_29 a sa).1
    have ne_a_b2 : a ≠ b2 := (q_29 a sa).2
    refine Road.getfield 20 bStr2_d20 (wI hw 31 rfl) Via.refl S2.2.1 ?_
    refine Road.putfield 23 bStr2_d23 (wI hw 31 rfl) Via.refl Fc E (Or.inr ⟨(wI hw 32 rfl), rfl, rfl⟩) (wI hw 6 rfl) (ty := .byte) (by decide) rfl rfl sa ?_
    intro h_33 W_31 K_32
    replace Fc := Fc.same W_31
    replace Fv := Fv.other W_31 (Or.inr (slot_ne (Or.inr (wI hw 34 rfl)) (Or.inr (wI hw 32 rfl)) (by decide) (t := (.array .byte)) (by decide) (t' := .byte) (by decide)))
    replace E := E.keep K_32
    replace A := A.keep K_32 (ninS (Ne.symm nab) nin0)
    replace S1 := S1.keep K_32 (ninS (Ne.symm ne_a_a1) nin0) (ninS (Ne.symm ne_a_b1) nin0)
    replace S2 := S2.keep K_32 (ninS (Ne.symm ne_a_a2) nin0) (ninS (Ne.symm ne_a_b2) nin0)
    exact Road.ret 26 bStr2_d26 rfl (by decide) (by decide) (fun σ' m => ⟨rfl, (((Road.keep_more (ws := [a]) K_18).trans K_23 (by simp)).trans K_27 (by simp)).trans K_32 (by simp), b1, Or.inl ⟨E, Fc, Fv, S1.2.2.2.1, S1.2.2.2.2⟩⟩)
def bStr1 : Road.Bdy := (⟨"java/lang/String", "<init>", "([C)V"⟩, jdk_42_method_3_code, 2, none, { frames := 5, cells := 4, slots := 8, locals := 75 })
theorem bStr1_d0 : decode bStr1.bs 0 = .ok (.aload_n 0, 1) := by decide +kernel
theorem bStr1_d1 : decode bStr1.bs 1 = .ok (.aload_n 1, 1) := by decide +kernel
theorem bStr1_d2 : decode bStr1.bs 2 = .ok (.iconst 0, 1) := by decide +kernel
theorem bStr1_d3 : decode bStr1.bs 3 = .ok (.aload_n 1, 1) := by decide +kernel
theorem bStr1_d4 : decode bStr1.bs 4 = .ok (.arraylength, 1) := by decide +kernel
theorem bStr1_d5 : decode bStr1.bs 5 = .ok (.aconst_null, 1) := by decide +kernel
theorem bStr1_d6 : decode bStr1.bs 6 = .ok (.invokespecial 27, 3) := by decide +kernel
theorem bStr1_d9 : decode bStr1.bs 9 = .ok (.return_, 1) := by decide +kernel
theorem bStr1_pd : parseMethodDescriptor "([C)V" = some ⟨[(.array .char)], none⟩ := by decide +kernel
theorem bStr1_pn : plainFor bStr1.y = true := plainFor_of_name (show plainName "java/lang/String" = true from by first | (simp [plainName, overriddenIn]; done) | decide +kernel)
theorem cStr1 (l : Launch) (Z : State) (a0 : Array Value) (hw : ∀ d ∈ tables_1, d.before a0 Z = true) (n0 : Nat) (hEW : EW Z a0 consts_1) (a b : Addr) (cs : List Int32) (h0 : Heap) (σ : Addr → Prop) (E : Exa Z h0 a Road.SN) (Fc : Fld Z h0 a Road.SN "coder" "B" (.int 0)) (Fv : Fld Z h0 a Road.SN "value" "[B" .null) (A : Road.Ary Z h0 b .char (cs.map .int)) (hcap : cs.length ≤ 2) (h16 : ∀ c ∈ cs, 0 ≤ c.toInt ∧ c.toInt < 65536) (sa : σ a) (cp : Int32) (Hc : Sta Z Z.heap Road.SN "COMPACT_STRINGS" "Z" (.int cp)) (hcp : ¬ cp = 0) (H0 : Sta Z Z.heap "java/lang/StringUTF16" "$assertionsDisabled" "Z" (.int 1)) (H1 : Sta Z Z.heap "java/lang/StringUTF16" "HI_BYTE_SHIFT" "I" (.int 0)) (H2 : Sta Z Z.heap "java/lang/StringUTF16" "LO_BYTE_SHIFT" "I" (.int 8)) :
    Road.Con l Z consts_1 n0 false bStr1 [] σ #[(.ref a), (.ref b)] h0 (fun v h2 s2 => v = none ∧ Keep h0 h2 [a] ∧ ∃ d, Road.StrX Z h2 a d cs) := by
  refine Road.Con.of bStr1_pn hEW #[.val (.ref a), .val (.ref b)] (fun m => Road.ent (Road.laid1 rfl (Road.laid1 rfl Road.laid0)) (k := 0) rfl rfl) ?_
  intro D hD
  refine Road.aloadN 0 bStr1_d0 rfl ?_
  refine Road.aloadN 1 bStr1_d1 rfl ?_
  refine Road.iconst 2 (0 : Int32) bStr1_d2 rfl ?_
  refine Road.aloadN 3 bStr1_d3 rfl ?_
  refine Road.alen 4 (Nat.toInt32 cs.length) bStr1_d4 A (n := cs.length) (List.length_map _) rfl ?_
  refine Road.aconstNull 5 bStr1_d5 ?_
  refine Road.callI (B' := bStr2) (a := a) 6 (argsL := [(.ref b), (.int (0 : Int32)), (.int (Nat.toInt32 cs.length)), .null]) (rest := []) 0 bStr1_d6 (wI hw 12 rfl) (wI hw 13 rfl) (wI hw 7 rfl) (wI hw 15 rfl) rfl rfl (by decide) (cStr2 l Z a0 hw n0 hEW a b cs h0 σ E Fc Fv A hcap h16 sa cp Hc hcp H0 H1 H2) (lenOf bStr2_pd rfl) rfl rfl rfl (by decide) (by decide) (ce' := 4) (sl' := 8) rfl rfl (by decide) (by decide) ?_
  rintro _ h_1 σ_2 m_3 ⟨rfl, K_4, d, S⟩
  exact Road.ret 9 bStr1_d9 rfl (by decide) (by decide) (fun σ' m => ⟨rfl, K_4, d, S⟩)
def bCan : Road.Bdy := (⟨"java/lang/StringLatin1", "canEncode", "(C)Z"⟩, jdk_43_method_3_code, 1, (some .boolean), { frames := 0, cells := 0, slots := 0, locals := 0 })
theorem bCan_d0 : decode bCan.bs 0 = .ok (.iload_n 0, 1) := by decide +kernel
theorem bCan_d1 : decode bCan.bs 1 = .ok (.sipush 255, 3) := by decide +kernel
theorem bCan_d4 : decode bCan.bs 4 = .ok (.if_icmp .gt 7, 3) := by decide +kernel
theorem bCan_d7 : decode bCan.bs 7 = .ok (.iconst 1, 1) := by decide +kernel
theorem bCan_d8 : decode bCan.bs 8 = .ok (.goto 4, 3) := by decide +kernel
theorem bCan_d11 : decode bCan.bs 11 = .ok (.iconst 0, 1) := by decide +kernel
theorem bCan_d12 : decode bCan.bs 12 = .ok (.ireturn, 1) := by decide +kernel
theorem bCan_pd : parseMethodDescriptor "(C)Z" = some ⟨[.char], (some .boolean)⟩ := by decide +kernel
theorem bCan_pn : plainFor bCan.y = true := plainFor_of_name (show plainName "java/lang/StringLatin1" = true from by first | (simp [plainName, overriddenIn]; done) | decide +kernel)
theorem cCan (l : Launch) (Z : State) (a0 : Array Value) (hw : ∀ d ∈ tables_1, d.before a0 Z = true) (n0 : Nat) (hEW : EW Z a0 consts_1) (c : Int32) (h0 : Heap) (σ : Addr → Prop) (hc : 0 ≤ c.toInt ∧ c.toInt < 256) :
    Road.Con l Z consts_1 n0 false bCan [] σ #[(.int c)] h0 (fun v h2 _ => v = some (.int 1) ∧ h0 = h2) := by
  refine Road.Con.of bCan_pn hEW #[.val (.int c)] (fun m => Road.ent (Road.laid1 rfl Road.laid0) (k := 0) rfl rfl) ?_
  intro D hD
  refine Road.iloadN 0 bCan_d0 rfl ?_
  refine Road.sipush 1 (255 : Int32) bCan_d1 rfl ?_
  refine Road.icmp_gt 4 11 bCan_d4 rfl (fun q => absurd q (by rw [Int32.lt_iff_toInt_lt]; have : (255 : Int32).toInt = 255 := rfl; omega)) (fun hc4 => ?_)
  refine Road.iconst 7 (1 : Int32) bCan_d7 rfl ?_
  refine Road.goto 8 12 bCan_d8 rfl ?_
  exact Road.iret 12 1 bCan_d12 (t := .boolean) rfl (by simp) rfl (by decide) (by decide) (fun σ' m => ⟨rfl, rfl⟩)
def bCod : Road.Bdy := (⟨"java/lang/String", "coder", "()B"⟩, jdk_42_method_152_code, 1, (some .byte), { frames := 0, cells := 0, slots := 0, locals := 0 })
theorem bCod_d0 : decode bCod.bs 0 = .ok (.getstatic 38, 3) := by decide +kernel
theorem bCod_d3 : decode bCod.bs 3 = .ok (.ifCond .eq 10, 3) := by decide +kernel
theorem bCod_d6 : decode bCod.bs 6 = .ok (.aload_n 0, 1) := by decide +kernel
theorem bCod_d7 : decode bCod.bs 7 = .ok (.getfield 15, 3) := by decide +kernel
theorem bCod_d10 : decode bCod.bs 10 = .ok (.goto 4, 3) := by decide +kernel
theorem bCod_d13 : decode bCod.bs 13 = .ok (.iconst 1, 1) := by decide +kernel
theorem bCod_d14 : decode bCod.bs 14 = .ok (.ireturn, 1) := by decide +kernel
theorem bCod_pd : parseMethodDescriptor "()B" = some ⟨[], (some .byte)⟩ := by decide +kernel
theorem bCod_pn : plainFor bCod.y = true := plainFor_of_name (show plainName "java/lang/String" = true from by first | (simp [plainName, overriddenIn]; done) | decide +kernel)
theorem cCod (l : Launch) (Z : State) (a0 : Array Value) (hw : ∀ d ∈ tables_1, d.before a0 Z = true) (n0 : Nat) (hEW : EW Z a0 consts_1) (a : Addr) (h0 : Heap) (σ : Addr → Prop) (Fc : Fld Z h0 a Road.SN "coder" "B" (.int 0)) (cp : Int32) (Hc : Sta Z Z.heap Road.SN "COMPACT_STRINGS" "Z" (.int cp)) (hcp : ¬ cp = 0) :
    Road.Con l Z consts_1 n0 false bCod [] σ #[(.ref a)] h0 (fun v h2 _ => v = some (.int 0) ∧ h0 = h2) := by
  refine Road.Con.of bCod_pn hEW #[.val (.ref a)] (fun m => Road.ent (Road.laid1 rfl Road.laid0) (k := 0) rfl rfl) ?_
  intro D hD
  refine Road.getstatic 0 bCod_d0 (wI hw 19 rfl) Via.refl Hc ?_
  refine Road.if_eq 3 13 bCod_d3 rfl (fun q => absurd q hcp) (fun hc3 => ?_)
  refine Road.aloadN 6 bCod_d6 rfl ?_
  refine Road.getfield 7 bCod_d7 (wI hw 31 rfl) Via.refl Fc ?_
  refine Road.goto 10 14 bCod_d10 rfl ?_
  exact Road.iret 14 0 bCod_d14 (t := .byte) rfl (by simp) rfl (by decide) (by decide) (fun σ' m => ⟨rfl, rfl⟩)
def bLen : Road.Bdy := (⟨"java/lang/String", "length", "()I"⟩, jdk_42_method_54_code, 1, (some .int), { frames := 1, cells := 0, slots := 0, locals := 13 })
theorem bLen_d0 : decode bLen.bs 0 = .ok (.aload_n 0, 1) := by decide +kernel
theorem bLen_d1 : decode bLen.bs 1 = .ok (.getfield 9, 3) := by decide +kernel
theorem bLen_d4 : decode bLen.bs 4 = .ok (.arraylength, 1) := by decide +kernel
theorem bLen_d5 : decode bLen.bs 5 = .ok (.aload_n 0, 1) := by decide +kernel
theorem bLen_d6 : decode bLen.bs 6 = .ok (.invokevirtual 335, 3) := by decide +kernel
theorem bLen_d9 : decode bLen.bs 9 = .ok (.ishr, 1) := by decide +kernel
theorem bLen_d10 : decode bLen.bs 10 = .ok (.ireturn, 1) := by decide +kernel
theorem bLen_pd : parseMethodDescriptor "()I" = some ⟨[], (some .int)⟩ := by decide +kernel
theorem bLen_pn : plainFor bLen.y = true := plainFor_of_name (show plainName "java/lang/String" = true from by first | (simp [plainName, overriddenIn]; done) | decide +kernel)
theorem cLen (l : Launch) (Z : State) (a0 : Array Value) (hw : ∀ d ∈ tables_1, d.before a0 Z = true) (n0 : Nat) (hEW : EW Z a0 consts_1) (a b : Addr) (cs : List Int32) (h0 : Heap) (σ : Addr → Prop) (S : Road.Str Z h0 a b cs) (cp : Int32) (Hc : Sta Z Z.heap Road.SN "COMPACT_STRINGS" "Z" (.int cp)) (hcp : ¬ cp = 0) :
    Road.Con l Z consts_1 n0 false bLen [] σ #[(.ref a)] h0 (fun v h2 _ => v = some (.int (Nat.toInt32 cs.length)) ∧ h0 = h2) := by
  refine Road.Con.of bLen_pn hEW #[.val (.ref a)] (fun m => Road.ent (Road.laid1 rfl Road.laid0) (k := 0) rfl rfl) ?_
  intro D hD
  refine Road.aloadN 0 bLen_d0 rfl ?_
  refine Road.getfield 1 bLen_d1 (wI hw 33 rfl) Via.refl S.2.2.1 ?_
  refine Road.alen 4 (Nat.toInt32 cs.length) bLen_d4 S.2.2.2.1 (n := cs.length) (List.length_map _) rfl ?_
  refine Road.aloadN 5 bLen_d5 rfl ?_
  refine Road.callV (B' := bCod) (a := a) 6 (argsL := []) (rest := [(.int (Nat.toInt32 cs.length))]) "java/lang/String" 1 bLen_d6 (wI hw 85 rfl) (wI hw 86 rfl) (fun vm hz => Road.notFace_sib (args := #[]) (mv (s := D.s.setVm vm) hz (wI hw 83 rfl)) rfl) (wI hw 88 rfl) (wI hw 87 rfl) (wI hw 7 rfl) (wI hw 89 rfl) (by decide) S.1 (cCod l Z a0 hw n0 hEW a h0 σ S.2.1 cp Hc hcp) (lenOf bCod_pd rfl) rfl rfl rfl (by decide) (by decide) (ce' := 0) (sl' := 0) rfl rfl (by decide) (by decide) ?_
  rintro _ h_1 σ_2 m_3 ⟨rfl, rfl⟩
  refine Road.Go.weaken (σ' := σ) m_3 (Nat.le_refl _) (Nat.le_refl _) ?_
  refine Road.ishr 9 bLen_d9 ?_
  exact Road.iretI 10 bLen_d10 rfl (by decide) (by decide) (fun σ' m => ⟨by rw [Road.shr0], rfl⟩)
def bPre : Road.Bdy := (⟨"jdk/internal/util/Preconditions", "checkIndex", "(IILjava/util/function/BiFunction;)I"⟩, jdk_41_method_11_code, 3, (some .int), { frames := 0, cells := 0, slots := 0, locals := 0 })
theorem bPre_d0 : decode bPre.bs 0 = .ok (.iload_n 0, 1) := by decide +kernel
theorem bPre_d1 : decode bPre.bs 1 = .ok (.ifCond .lt 8, 3) := by decide +kernel
theorem bPre_d4 : decode bPre.bs 4 = .ok (.iload_n 0, 1) := by decide +kernel
theorem bPre_d5 : decode bPre.bs 5 = .ok (.iload_n 1, 1) := by decide +kernel
theorem bPre_d6 : decode bPre.bs 6 = .ok (.if_icmp .lt 10, 3) := by decide +kernel
theorem bPre_d9 : decode bPre.bs 9 = .ok (.aload_n 2, 1) := by decide +kernel
theorem bPre_d10 : decode bPre.bs 10 = .ok (.iload_n 0, 1) := by decide +kernel
theorem bPre_d11 : decode bPre.bs 11 = .ok (.iload_n 1, 1) := by decide +kernel
theorem bPre_d12 : decode bPre.bs 12 = .ok (.invokestatic 95, 3) := by decide +kernel
theorem bPre_d15 : decode bPre.bs 15 = .ok (.athrow, 1) := by decide +kernel
theorem bPre_d16 : decode bPre.bs 16 = .ok (.iload_n 0, 1) := by decide +kernel
theorem bPre_d17 : decode bPre.bs 17 = .ok (.ireturn, 1) := by decide +kernel
theorem bPre_pd : parseMethodDescriptor "(IILjava/util/function/BiFunction;)I" = some ⟨[.int, .int, (.object "java/util/function/BiFunction")], (some .int)⟩ := by decide +kernel
theorem bPre_pn : plainFor bPre.y = true := plainFor_of_name (show plainName "jdk/internal/util/Preconditions" = true from by first | (simp [plainName, overriddenIn]; done) | decide +kernel)
theorem cPre (l : Launch) (Z : State) (a0 : Array Value) (hw : ∀ d ∈ tables_1, d.before a0 Z = true) (n0 : Nat) (hEW : EW Z a0 consts_1) (j n : Int32) (fm : Value) (h0 : Heap) (σ : Addr → Prop) (hfm : fm.isRef = true) (hj : ¬ j < 0) (hjn : j < n) :
    Road.Con l Z consts_1 n0 false bPre [] σ #[(.int j), (.int n), fm] h0 (fun v h2 _ => v = some (.int j) ∧ h0 = h2) := by
  refine Road.Con.of bPre_pn hEW #[.val (.int j), .val (.int n), .val fm] (fun m => Road.ent (Road.laid1 rfl (Road.laid1 rfl (Road.laid1 (XT.cat1 hfm) Road.laid0))) (k := 0) rfl rfl) ?_
  intro D hD
  refine Road.iloadN 0 bPre_d0 rfl ?_
  refine Road.if_lt 1 9 bPre_d1 rfl (fun q => absurd q hj) (fun hc1 => ?_)
  refine Road.iloadN 4 bPre_d4 rfl ?_
  refine Road.iloadN 5 bPre_d5 rfl ?_
  refine Road.icmp_lt 6 16 bPre_d6 rfl (fun hc6 => ?_) (fun q => absurd q (by simpa using hjn))
  refine Road.iloadN 16 bPre_d16 rfl ?_
  exact Road.iretI 17 bPre_d17 rfl (by decide) (by decide) (fun σ' m => ⟨rfl, rfl⟩)
def bChk : Road.Bdy := (⟨"java/lang/String", "checkIndex", "(II)V"⟩, jdk_42_method_155_code, 2, none, { frames := 1, cells := 0, slots := 0, locals := 14 })
theorem bChk_d0 : decode bChk.bs 0 = .ok (.iload_n 0, 1) := by decide +kernel
theorem bChk_d1 : decode bChk.bs 1 = .ok (.iload_n 1, 1) := by decide +kernel
theorem bChk_d2 : decode bChk.bs 2 = .ok (.getstatic 1053, 3) := by decide +kernel
theorem bChk_d5 : decode bChk.bs 5 = .ok (.invokestatic 1059, 3) := by decide +kernel
theorem bChk_d8 : decode bChk.bs 8 = .ok (.pop, 1) := by decide +kernel
theorem bChk_d9 : decode bChk.bs 9 = .ok (.return_, 1) := by decide +kernel
theorem bChk_pd : parseMethodDescriptor "(II)V" = some ⟨[.int, .int], none⟩ := by decide +kernel
theorem bChk_pn : plainFor bChk.y = true := plainFor_of_name (show plainName "java/lang/String" = true from by first | (simp [plainName, overriddenIn]; done) | decide +kernel)
theorem cChk (l : Launch) (Z : State) (a0 : Array Value) (hw : ∀ d ∈ tables_1, d.before a0 Z = true) (n0 : Nat) (hEW : EW Z a0 consts_1) (j n : Int32) (h0 : Heap) (σ : Addr → Prop) (fm : Value) (hfm : fm.isRef = true) (Hf : Sta Z Z.heap "jdk/internal/util/Preconditions" "SIOOBE_FORMATTER" "Ljava/util/function/BiFunction;" fm) (hj : ¬ j < 0) (hjn : j < n) :
    Road.Con l Z consts_1 n0 false bChk [] σ #[(.int j), (.int n)] h0 (fun v h2 _ => v = none ∧ h0 = h2) := by
  refine Road.Con.of bChk_pn hEW #[.val (.int j), .val (.int n)] (fun m => Road.ent (Road.laid1 rfl (Road.laid1 rfl Road.laid0)) (k := 0) rfl rfl) ?_
  intro D hD
  refine Road.iloadN 0 bChk_d0 rfl ?_
  refine Road.iloadN 1 bChk_d1 rfl ?_
  refine Road.getstatic 2 bChk_d2 (wI hw 213 rfl) Via.refl Hf ?_
  refine Road.callS (B' := bPre) 5 (argsL := [(.int j), (.int n), fm]) (rest := []) 0 bChk_d5 (wI hw 215 rfl) (wI hw 216 rfl) (wI hw 214 rfl) (wI hw 217 rfl) (by decide) (cPre l Z a0 hw n0 hEW j n fm h0 σ hfm hj hjn) (lenOf bPre_pd rfl) rfl rfl rfl (by decide) (by decide) (ce' := 0) (sl' := 0) rfl rfl (by decide) (by decide) ?_
  rintro _ h_1 σ_2 m_3 ⟨rfl, rfl⟩
  refine Road.Go.weaken (σ' := σ) m_3 (Nat.le_refl _) (Nat.le_refl _) ?_
  refine Road.pop 8 bChk_d8 ?_
  exact Road.ret 9 bChk_d9 rfl (by decide) (by decide) (fun σ' m => ⟨rfl, rfl⟩)
def bAL0 : Road.Bdy := (⟨"java/lang/AbstractStringBuilder", "isLatin1", "()Z"⟩, jdk_68_method_68_code, 1, (some .boolean), { frames := 0, cells := 0, slots := 0, locals := 0 })
theorem bAL0_d0 : decode bAL0.bs 0 = .ok (.getstatic 18, 3) := by decide +kernel
theorem bAL0_d3 : decode bAL0.bs 3 = .ok (.ifCond .eq 14, 3) := by decide +kernel
theorem bAL0_d6 : decode bAL0.bs 6 = .ok (.aload_n 0, 1) := by decide +kernel
theorem bAL0_d7 : decode bAL0.bs 7 = .ok (.getfield 22, 3) := by decide +kernel
theorem bAL0_d10 : decode bAL0.bs 10 = .ok (.ifCond .ne 7, 3) := by decide +kernel
theorem bAL0_d13 : decode bAL0.bs 13 = .ok (.iconst 1, 1) := by decide +kernel
theorem bAL0_d14 : decode bAL0.bs 14 = .ok (.goto 4, 3) := by decide +kernel
theorem bAL0_d17 : decode bAL0.bs 17 = .ok (.iconst 0, 1) := by decide +kernel
theorem bAL0_d18 : decode bAL0.bs 18 = .ok (.ireturn, 1) := by decide +kernel
theorem bAL0_pd : parseMethodDescriptor "()Z" = some ⟨[], (some .boolean)⟩ := by decide +kernel
theorem bAL0_pn : plainFor bAL0.y = true := plainFor_of_name (show plainName "java/lang/AbstractStringBuilder" = true from by first | (simp [plainName, overriddenIn]; done) | decide +kernel)
theorem cAL0 (l : Launch) (Z : State) (a0 : Array Value) (hw : ∀ d ∈ tables_1, d.before a0 Z = true) (n0 : Nat) (hEW : EW Z a0 consts_1) (q : Addr) (h0 : Heap) (σ : Addr → Prop) (Fc : Fld Z h0 q Road.AB "coder" "B" (.int 0)) (cp : Int32) (Hc : Sta Z Z.heap Road.SN "COMPACT_STRINGS" "Z" (.int cp)) (hcp : ¬ cp = 0) :
    Road.Con l Z consts_1 n0 false bAL0 [] σ #[(.ref q)] h0 (fun v h2 _ => v = some (.int 1) ∧ h0 = h2) := by
  refine Road.Con.of bAL0_pn hEW #[.val (.ref q)] (fun m => Road.ent (Road.laid1 rfl Road.laid0) (k := 0) rfl rfl) ?_
  intro D hD
  refine Road.getstatic 0 bAL0_d0 (wI hw 58 rfl) Via.refl Hc ?_
  refine Road.if_eq 3 17 bAL0_d3 rfl (fun q => absurd q hcp) (fun hc3 => ?_)
  refine Road.aloadN 6 bAL0_d6 rfl ?_
  refine Road.getfield 7 bAL0_d7 (wI hw 61 rfl) Via.refl Fc ?_
  refine Road.if_ne 10 17 bAL0_d10 rfl (fun q => absurd q (by decide)) (fun hc10 => ?_)
  refine Road.iconst 13 (1 : Int32) bAL0_d13 rfl ?_
  refine Road.goto 14 18 bAL0_d14 rfl ?_
  exact Road.iret 18 1 bAL0_d18 (t := .boolean) rfl (by simp) rfl (by decide) (by decide) (fun σ' m => ⟨rfl, rfl⟩)
def bAL1 : Road.Bdy := (⟨"java/lang/AbstractStringBuilder", "isLatin1", "()Z"⟩, jdk_68_method_68_code, 1, (some .boolean), { frames := 0, cells := 0, slots := 0, locals := 0 })
theorem bAL1_pd : parseMethodDescriptor "()Z" = some ⟨[], (some .boolean)⟩ := by decide +kernel
theorem bAL1_pn : plainFor bAL1.y = true := plainFor_of_name (show plainName "java/lang/AbstractStringBuilder" = true from by first | (simp [plainName, overriddenIn]; done) | decide +kernel)
theorem cAL1 (l : Launch) (Z : State) (a0 : Array Value) (hw : ∀ d ∈ tables_1, d.before a0 Z = true) (n0 : Nat) (hEW : EW Z a0 consts_1) (q : Addr) (h0 : Heap) (σ : Addr → Prop) (Fc : Fld Z h0 q Road.AB "coder" "B" (.int 1)) (cp : Int32) (Hc : Sta Z Z.heap Road.SN "COMPACT_STRINGS" "Z" (.int cp)) (hcp : ¬ cp = 0) :
    Road.Con l Z consts_1 n0 false bAL1 [] σ #[(.ref q)] h0 (fun v h2 _ => v = some (.int 0) ∧ h0 = h2) := by
  refine Road.Con.of bAL1_pn hEW #[.val (.ref q)] (fun m => Road.ent (Road.laid1 rfl Road.laid0) (k := 0) rfl rfl) ?_
  intro D hD
  refine Road.getstatic 0 bAL0_d0 (wI hw 58 rfl) Via.refl Hc ?_
  refine Road.if_eq 3 17 bAL0_d3 rfl (fun q => absurd q hcp) (fun hc3 => ?_)
  refine Road.aloadN 6 bAL0_d6 rfl ?_
  refine Road.getfield 7 bAL0_d7 (wI hw 61 rfl) Via.refl Fc ?_
  refine Road.if_ne 10 17 bAL0_d10 rfl (fun hc10 => ?_) (fun q => absurd q (by decide))
  refine Road.iconst 17 (0 : Int32) bAL0_d17 rfl ?_
  exact Road.iret 18 0 bAL0_d18 (t := .boolean) rfl (by simp) rfl (by decide) (by decide) (fun σ' m => ⟨rfl, rfl⟩)
def bCo1 : Road.Bdy := (⟨"java/lang/String", "coder", "()B"⟩, jdk_42_method_152_code, 1, (some .byte), { frames := 0, cells := 0, slots := 0, locals := 0 })
theorem bCo1_pd : parseMethodDescriptor "()B" = some ⟨[], (some .byte)⟩ := by decide +kernel
theorem bCo1_pn : plainFor bCo1.y = true := plainFor_of_name (show plainName "java/lang/String" = true from by first | (simp [plainName, overriddenIn]; done) | decide +kernel)
theorem cCo1 (l : Launch) (Z : State) (a0 : Array Value) (hw : ∀ d ∈ tables_1, d.before a0 Z = true) (n0 : Nat) (hEW : EW Z a0 consts_1) (a : Addr) (h0 : Heap) (σ : Addr → Prop) (Fc : Fld Z h0 a Road.SN "coder" "B" (.int 1)) (cp : Int32) (Hc : Sta Z Z.heap Road.SN "COMPACT_STRINGS" "Z" (.int cp)) (hcp : ¬ cp = 0) :
    Road.Con l Z consts_1 n0 false bCo1 [] σ #[(.ref a)] h0 (fun v h2 _ => v = some (.int 1) ∧ h0 = h2) := by
  refine Road.Con.of bCo1_pn hEW #[.val (.ref a)] (fun m => Road.ent (Road.laid1 rfl Road.laid0) (k := 0) rfl rfl) ?_
  intro D hD
  refine Road.getstatic 0 bCod_d0 (wI hw 19 rfl) Via.refl Hc ?_
  refine Road.if_eq 3 13 bCod_d3 rfl (fun q => absurd q hcp) (fun hc3 => ?_)
  refine Road.aloadN 6 bCod_d6 rfl ?_
  refine Road.getfield 7 bCod_d7 (wI hw 31 rfl) Via.refl Fc ?_
  refine Road.goto 10 14 bCod_d10 rfl ?_
  exact Road.iret 14 1 bCod_d14 (t := .byte) rfl (by simp) rfl (by decide) (by decide) (fun σ' m => ⟨rfl, rfl⟩)
def bLe1 : Road.Bdy := (⟨"java/lang/String", "length", "()I"⟩, jdk_42_method_54_code, 1, (some .int), { frames := 1, cells := 0, slots := 0, locals := 13 })
theorem bLe1_pd : parseMethodDescriptor "()I" = some ⟨[], (some .int)⟩ := by decide +kernel
theorem bLe1_pn : plainFor bLe1.y = true := plainFor_of_name (show plainName "java/lang/String" = true from by first | (simp [plainName, overriddenIn]; done) | decide +kernel)
theorem cLe1 (l : Launch) (Z : State) (a0 : Array Value) (hw : ∀ d ∈ tables_1, d.before a0 Z = true) (n0 : Nat) (hEW : EW Z a0 consts_1) (s sb : Addr) (ds : List Int32) (h0 : Heap) (σ : Addr → Prop) (T : Road.Str16 Z h0 s sb ds) (cp : Int32) (Hc : Sta Z Z.heap Road.SN "COMPACT_STRINGS" "Z" (.int cp)) (hcp : ¬ cp = 0) :
    Road.Con l Z consts_1 n0 false bLe1 [] σ #[(.ref s)] h0 (fun v h2 _ => v = some (.int (Nat.toInt32 ds.length)) ∧ h0 = h2) := by
  have hsm := T.2.2.2.1.small
  rw [Road.utf_len] at hsm
  refine Road.Con.of bLe1_pn hEW #[.val (.ref s)] (fun m => Road.ent (Road.laid1 rfl Road.laid0) (k := 0) rfl rfl) ?_
  intro D hD
  refine Road.aloadN 0 bLen_d0 rfl ?_
  refine Road.getfield 1 bLen_d1 (wI hw 33 rfl) Via.refl T.2.2.1 ?_
  refine Road.alen 4 (Nat.toInt32 (2 * ds.length)) bLen_d4 T.2.2.2.1 (n := (2 * ds.length)) (Road.utf_len _) rfl ?_
  refine Road.aloadN 5 bLen_d5 rfl ?_
  refine Road.callV (B' := bCo1) (a := s) 6 (argsL := []) (rest := [(.int (Nat.toInt32 (2 * ds.length)))]) "java/lang/String" 1 bLen_d6 (wI hw 85 rfl) (wI hw 86 rfl) (fun vm hz => Road.notFace_sib (args := #[]) (mv (s := D.s.setVm vm) hz (wI hw 83 rfl)) rfl) (wI hw 88 rfl) (wI hw 87 rfl) (wI hw 7 rfl) (wI hw 89 rfl) (by decide) T.1 (cCo1 l Z a0 hw n0 hEW s h0 σ T.2.1 cp Hc hcp) (lenOf bCo1_pd rfl) rfl rfl rfl (by decide) (by decide) (ce' := 0) (sl' := 0) rfl rfl (by decide) (by decide) ?_
  rintro _ h_1 σ_2 m_3 ⟨rfl, rfl⟩
  refine Road.Go.weaken (σ' := σ) m_3 (Nat.le_refl _) (Nat.le_refl _) ?_
  refine Road.ishr 9 bLen_d9 ?_
  refine Road.nameI ?_
  intro z_5 hz_5
  obtain rfl : z_5 = (Nat.toInt32 ds.length) := by rw [hz_5]; exact Road.shr1 (by omega)
  exact Road.iretI 10 bLen_d10 rfl (by decide) (by decide) (fun σ' m => ⟨rfl, rfl⟩)
def bEm1 : Road.Bdy := (⟨"java/lang/String", "isEmpty", "()Z"⟩, jdk_42_method_55_code, 1, (some .boolean), { frames := 0, cells := 0, slots := 0, locals := 0 })
theorem bEm1_d0 : decode bEm1.bs 0 = .ok (.aload_n 0, 1) := by decide +kernel
theorem bEm1_d1 : decode bEm1.bs 1 = .ok (.getfield 9, 3) := by decide +kernel
theorem bEm1_d4 : decode bEm1.bs 4 = .ok (.arraylength, 1) := by decide +kernel
theorem bEm1_d5 : decode bEm1.bs 5 = .ok (.ifCond .ne 7, 3) := by decide +kernel
theorem bEm1_d8 : decode bEm1.bs 8 = .ok (.iconst 1, 1) := by decide +kernel
theorem bEm1_d9 : decode bEm1.bs 9 = .ok (.goto 4, 3) := by decide +kernel
theorem bEm1_d12 : decode bEm1.bs 12 = .ok (.iconst 0, 1) := by decide +kernel
theorem bEm1_d13 : decode bEm1.bs 13 = .ok (.ireturn, 1) := by decide +kernel
theorem bEm1_pd : parseMethodDescriptor "()Z" = some ⟨[], (some .boolean)⟩ := by decide +kernel
theorem bEm1_pn : plainFor bEm1.y = true := plainFor_of_name (show plainName "java/lang/String" = true from by first | (simp [plainName, overriddenIn]; done) | decide +kernel)
theorem cEm1 (l : Launch) (Z : State) (a0 : Array Value) (hw : ∀ d ∈ tables_1, d.before a0 Z = true) (n0 : Nat) (hEW : EW Z a0 consts_1) (s sb : Addr) (ds : List Int32) (h0 : Heap) (σ : Addr → Prop) (T : Road.Str16 Z h0 s sb ds) :
    Road.Con l Z consts_1 n0 false bEm1 [] σ #[(.ref s)] h0 (fun v h2 _ => v = some (.int 0) ∧ h0 = h2) := by
  have hsm := T.2.2.2.1.small
  rw [Road.utf_len] at hsm
  have hpos := T.2.2.2.2.2
  refine Road.Con.of bEm1_pn hEW #[.val (.ref s)] (fun m => Road.ent (Road.laid1 rfl Road.laid0) (k := 0) rfl rfl) ?_
  intro D hD
  refine Road.aloadN 0 bEm1_d0 rfl ?_
  refine Road.getfield 1 bEm1_d1 (wI hw 33 rfl) Via.refl T.2.2.1 ?_
  refine Road.alen 4 (Nat.toInt32 (2 * ds.length)) bEm1_d4 T.2.2.2.1 (n := (2 * ds.length)) (Road.utf_len _) rfl ?_
  refine Road.if_ne 5 12 bEm1_d5 rfl (fun hc5 => ?_) (fun q => absurd q (by rw [show (0 : Int32) = Nat.toInt32 0 from rfl, Road.eq32 (by omega) (by omega)]; omega))
  refine Road.iconst 12 (0 : Int32) bEm1_d12 rfl ?_
  exact Road.iret 13 0 bEm1_d13 (t := .boolean) rfl (by simp) rfl (by decide) (by decide) (fun σ' m => ⟨rfl, rfl⟩)
def bMin : Road.Bdy := (⟨"java/lang/Math", "min", "(II)I"⟩, jdk_29_method_69_code, 2, (some .int), { frames := 0, cells := 0, slots := 0, locals := 0 })
theorem bMin_d0 : decode bMin.bs 0 = .ok (.iload_n 0, 1) := by decide +kernel
theorem bMin_d1 : decode bMin.bs 1 = .ok (.iload_n 1, 1) := by decide +kernel
theorem bMin_d2 : decode bMin.bs 2 = .ok (.if_icmp .gt 7, 3) := by decide +kernel
theorem bMin_d5 : decode bMin.bs 5 = .ok (.iload_n 0, 1) := by decide +kernel
theorem bMin_d6 : decode bMin.bs 6 = .ok (.goto 4, 3) := by decide +kernel
theorem bMin_d9 : decode bMin.bs 9 = .ok (.iload_n 1, 1) := by decide +kernel
theorem bMin_d10 : decode bMin.bs 10 = .ok (.ireturn, 1) := by decide +kernel
theorem bMin_pd : parseMethodDescriptor "(II)I" = some ⟨[.int, .int], (some .int)⟩ := by decide +kernel
theorem bMin_pn : plainFor bMin.y = true := Jvm.Free.JP.mathPlain rfl (by decide +kernel)
theorem cMin (l : Launch) (Z : State) (a0 : Array Value) (hw : ∀ d ∈ tables_1, d.before a0 Z = true) (n0 : Nat) (hEW : EW Z a0 consts_1) (i j : Nat) (h0 : Heap) (σ : Addr → Prop) (hi : i < 2147483648) (hj : j < 2147483648) :
    Road.Con l Z consts_1 n0 false bMin [] σ #[(.int (Nat.toInt32 i)), (.int (Nat.toInt32 j))] h0 (fun v h2 _ => v = some (.int (Nat.toInt32 (min i j))) ∧ h0 = h2) := by
  refine Road.Con.of bMin_pn hEW #[.val (.int (Nat.toInt32 i)), .val (.int (Nat.toInt32 j))] (fun m => Road.ent (Road.laid1 rfl (Road.laid1 rfl Road.laid0)) (k := 0) rfl rfl) ?_
  intro D hD
  refine Road.iloadN 0 bMin_d0 rfl ?_
  refine Road.iloadN 1 bMin_d1 rfl ?_
  refine Road.icmp_gt 2 9 bMin_d2 rfl (fun hc2 => ?_) (fun hc2 => ?_)
  · skip
    refine Road.iloadN 9 bMin_d9 rfl ?_
    exact Road.iretI 10 bMin_d10 rfl (by decide) (by decide) (fun σ' m => ⟨by rw [Road.lt32 hj hi] at hc2; rw [Nat.min_eq_right (by omega)], rfl⟩)
  · skip
    refine Road.iloadN 5 bMin_d5 rfl ?_
    refine Road.goto 6 10 bMin_d6 rfl ?_
    exact Road.iretI 10 bMin_d10 rfl (by decide) (by decide) (fun σ' m => ⟨by rw [Road.lt32 hj hi] at hc2; rw [Nat.min_eq_left (by omega)], rfl⟩)
def bCpO : Road.Bdy := (⟨"java/util/Arrays", "copyOf", "([BI)[B"⟩, jdk_65_method_121_code, 3, (some (.array .byte)), { frames := 1, cells := 1, slots := 68, locals := 22 })
theorem bCpO_d0 : decode bCpO.bs 0 = .ok (.iload_n 1, 1) := by decide +kernel
theorem bCpO_d1 : decode bCpO.bs 1 = .ok (.aload_n 0, 1) := by decide +kernel
theorem bCpO_d2 : decode bCpO.bs 2 = .ok (.arraylength, 1) := by decide +kernel
theorem bCpO_d3 : decode bCpO.bs 3 = .ok (.if_icmp .ne 11, 3) := by decide +kernel
theorem bCpO_d6 : decode bCpO.bs 6 = .ok (.aload_n 0, 1) := by decide +kernel
theorem bCpO_d7 : decode bCpO.bs 7 = .ok (.invokevirtual 310, 3) := by decide +kernel
theorem bCpO_d10 : decode bCpO.bs 10 = .ok (.checkcast 311, 3) := by decide +kernel
theorem bCpO_d13 : decode bCpO.bs 13 = .ok (.areturn, 1) := by decide +kernel
theorem bCpO_d14 : decode bCpO.bs 14 = .ok (.iload_n 1, 1) := by decide +kernel
theorem bCpO_d15 : decode bCpO.bs 15 = .ok (.newarray .byte, 2) := by decide +kernel
theorem bCpO_d17 : decode bCpO.bs 17 = .ok (.astore_n 2, 1) := by decide +kernel
theorem bCpO_d18 : decode bCpO.bs 18 = .ok (.aload_n 0, 1) := by decide +kernel
theorem bCpO_d19 : decode bCpO.bs 19 = .ok (.iconst 0, 1) := by decide +kernel
theorem bCpO_d20 : decode bCpO.bs 20 = .ok (.aload_n 2, 1) := by decide +kernel
theorem bCpO_d21 : decode bCpO.bs 21 = .ok (.iconst 0, 1) := by decide +kernel
theorem bCpO_d22 : decode bCpO.bs 22 = .ok (.aload_n 0, 1) := by decide +kernel
theorem bCpO_d23 : decode bCpO.bs 23 = .ok (.arraylength, 1) := by decide +kernel
theorem bCpO_d24 : decode bCpO.bs 24 = .ok (.iload_n 1, 1) := by decide +kernel
theorem bCpO_d25 : decode bCpO.bs 25 = .ok (.invokestatic 304, 3) := by decide +kernel
theorem bCpO_d28 : decode bCpO.bs 28 = .ok (.invokestatic 150, 3) := by decide +kernel
theorem bCpO_d31 : decode bCpO.bs 31 = .ok (.aload_n 2, 1) := by decide +kernel
theorem bCpO_d32 : decode bCpO.bs 32 = .ok (.areturn, 1) := by decide +kernel
theorem bCpO_pd : parseMethodDescriptor "([BI)[B" = some ⟨[(.array .byte), .int], (some (.array .byte))⟩ := by decide +kernel
theorem bCpO_pn : plainFor bCpO.y = true := plainFor_of_name (show plainName "java/util/Arrays" = true from by first | (simp [plainName, overriddenIn]; done) | decide +kernel)
theorem cCpO (l : Launch) (Z : State) (a0 : Array Value) (hw : ∀ d ∈ tables_1, d.before a0 Z = true) (n0 : Nat) (hEW : EW Z a0 consts_1) (b : Addr) (vs : List Value) (m : Nat) (h0 : Heap) (σ : Addr → Prop) (A : Road.Ary Z h0 b .byte vs) (hm : vs.length < m) (hcap : m ≤ 68) :
    Road.Con l Z consts_1 n0 false bCpO [] σ #[(.ref b), (.int (Nat.toInt32 m))] h0 (fun v h2 s2 => ∃ d, v = some (.ref d) ∧ h0.size ≤ d ∧ Keep h0 h2 [] ∧ s2 d ∧ Road.Ary Z h2 d .byte (vs ++ List.replicate (m - vs.length) (.int 0)) ∧ Exa Z h2 d "[B") := by
  have hsm := A.small
  refine Road.Con.of bCpO_pn hEW #[.val (.ref b), .val (.int (Nat.toInt32 m)), .unset] (fun m => Road.ent (Road.laid1 rfl (Road.laid1 rfl Road.laid0)) (k := 1) rfl rfl) ?_
  intro D hD
  refine Road.iloadN 0 bCpO_d0 rfl ?_
  refine Road.aloadN 1 bCpO_d1 rfl ?_
  refine Road.alen 2 (Nat.toInt32 vs.length) bCpO_d2 A (n := vs.length) rfl rfl ?_
  refine Road.icmp_ne 3 14 bCpO_d3 rfl (fun hc3 => ?_) (fun q => absurd q (by rw [Road.eq32 (by omega) (by omega)]; omega))
  refine Road.iloadN 14 bCpO_d14 rfl ?_
  refine Road.newarrayE 15 .byte m 68 "[B" rfl bCpO_d15 rfl (wI hw 24 rfl) (Road.n32 (by omega)) hcap (by decide) (ce' := 1) (sl' := 68) rfl rfl (by decide) (by decide) ?_
  intro d h_1 σ_2 g_3 K_4 lt_5 m_6 s_7 Ad ED
  have ne_b_d : b ≠ d := Nat.ne_of_lt (Nat.lt_of_lt_of_le A.lt (Nat.le_of_eq g_3.symm))
  replace A := A.keep K_4 nin0
  refine Road.astoreN 17 #[.val (.ref b), .val (.int (Nat.toInt32 m)), .val (.ref d)] bCpO_d17 rfl ?_
  refine Road.aloadN 18 bCpO_d18 rfl ?_
  refine Road.iconst 19 (0 : Int32) bCpO_d19 rfl ?_
  refine Road.aloadN 20 bCpO_d20 rfl ?_
  refine Road.iconst 21 (0 : Int32) bCpO_d21 rfl ?_
  refine Road.aloadN 22 bCpO_d22 rfl ?_
  refine Road.alen 23 (Nat.toInt32 vs.length) bCpO_d23 A (n := vs.length) rfl rfl ?_
  refine Road.iloadN 24 bCpO_d24 rfl ?_
  refine Road.callS (B' := bMin) 25 (argsL := [(.int (Nat.toInt32 vs.length)), (.int (Nat.toInt32 m))]) (rest := [(.int (0 : Int32)), (.ref d), (.int (0 : Int32)), (.ref b)]) 4 bCpO_d25 (wI hw 181 rfl) (wI hw 182 rfl) (wI hw 183 rfl) (wI hw 184 rfl) (by decide) (cMin l Z a0 hw n0 hEW vs.length m h_1 σ_2 hsm (by omega)) (lenOf bMin_pd rfl) rfl rfl rfl (by decide) (by decide) (ce' := 1) (sl' := 68) rfl rfl (by decide) (by decide) ?_
  rintro _ h_8 σ_9 m_10 ⟨rfl, rfl⟩
  refine Road.Go.weaken (σ' := σ_2) m_10 (Nat.le_refl _) (Nat.le_refl _) ?_
  refine Road.acopy 28 0 0 vs.length 0 bCpO_d28 (wI hw 185 rfl) (wI hw 116 rfl) (wI hw 114 rfl) (wI hw 115 rfl) A Ad rfl rfl rfl (by rw [Nat.min_eq_left (by omega)]; exact Road.n32 hsm) (by omega) (by rw [List.length_replicate]; omega) s_7 rfl rfl (by decide) (by decide) ?_
  intro h_12 K_13 Ae
  replace A := A.keep K_13 (ninS ne_b_d nin0)
  replace ED := ED.keep K_13
  refine Road.aloadN 31 bCpO_d31 rfl ?_
  exact Road.aret 32 bCpO_d32 (t := (.array .byte)) rfl rfl rfl (by decide) (by decide) (fun σ' m => ⟨d, rfl, Nat.le_of_eq g_3.symm, K_4.trans K_13 (by intro x hx; cases List.mem_singleton.mp hx; exact Or.inr (Nat.le_of_eq g_3.symm)), m _ s_7, by simpa [defaultValue] using Ae, ED⟩)
def bMax : Road.Bdy := (⟨"java/lang/Math", "max", "(II)I"⟩, jdk_29_method_65_code, 2, (some .int), { frames := 0, cells := 0, slots := 0, locals := 0 })
theorem bMax_d0 : decode bMax.bs 0 = .ok (.iload_n 0, 1) := by decide +kernel
theorem bMax_d1 : decode bMax.bs 1 = .ok (.iload_n 1, 1) := by decide +kernel
theorem bMax_d2 : decode bMax.bs 2 = .ok (.if_icmp .lt 7, 3) := by decide +kernel
theorem bMax_d5 : decode bMax.bs 5 = .ok (.iload_n 0, 1) := by decide +kernel
theorem bMax_d6 : decode bMax.bs 6 = .ok (.goto 4, 3) := by decide +kernel
theorem bMax_d9 : decode bMax.bs 9 = .ok (.iload_n 1, 1) := by decide +kernel
theorem bMax_d10 : decode bMax.bs 10 = .ok (.ireturn, 1) := by decide +kernel
theorem bMax_pd : parseMethodDescriptor "(II)I" = some ⟨[.int, .int], (some .int)⟩ := by decide +kernel
theorem bMax_pn : plainFor bMax.y = true := Jvm.Free.JP.mathPlain rfl (by decide +kernel)
theorem cMax (l : Launch) (Z : State) (a0 : Array Value) (hw : ∀ d ∈ tables_1, d.before a0 Z = true) (n0 : Nat) (hEW : EW Z a0 consts_1) (i j : Nat) (h0 : Heap) (σ : Addr → Prop) (hi : i < 2147483648) (hj : j < 2147483648) :
    Road.Con l Z consts_1 n0 false bMax [] σ #[(.int (Nat.toInt32 i)), (.int (Nat.toInt32 j))] h0 (fun v h2 _ => v = some (.int (Nat.toInt32 (max i j))) ∧ h0 = h2) := by
  refine Road.Con.of bMax_pn hEW #[.val (.int (Nat.toInt32 i)), .val (.int (Nat.toInt32 j))] (fun m => Road.ent (Road.laid1 rfl (Road.laid1 rfl Road.laid0)) (k := 0) rfl rfl) ?_
  intro D hD
  refine Road.iloadN 0 bMax_d0 rfl ?_
  refine Road.iloadN 1 bMax_d1 rfl ?_
  refine Road.icmp_lt 2 9 bMax_d2 rfl (fun hc2 => ?_) (fun hc2 => ?_)
  · skip
    refine Road.iloadN 9 bMax_d9 rfl ?_
    exact Road.iretI 10 bMax_d10 rfl (by decide) (by decide) (fun σ' m => ⟨by rw [Road.lt32 hi hj] at hc2; rw [Nat.max_eq_right (by omega)], rfl⟩)
  · skip
    refine Road.iloadN 5 bMax_d5 rfl ?_
    refine Road.goto 6 10 bMax_d6 rfl ?_
    exact Road.iretI 10 bMax_d10 rfl (by decide) (by decide) (fun σ' m => ⟨by rw [Road.lt32 hi hj] at hc2; rw [Nat.max_eq_left (by omega)], rfl⟩)
def bNwL : Road.Bdy := (⟨"jdk/internal/util/ArraysSupport", "newLength", "(III)I"⟩, jdk_48_method_27_code, 4, (some .int), { frames := 1, cells := 0, slots := 0, locals := 14 })
theorem bNwL_d0 : decode bNwL.bs 0 = .ok (.iload_n 0, 1) := by decide +kernel
theorem bNwL_d1 : decode bNwL.bs 1 = .ok (.iload_n 1, 1) := by decide +kernel
theorem bNwL_d2 : decode bNwL.bs 2 = .ok (.iload_n 2, 1) := by decide +kernel
theorem bNwL_d3 : decode bNwL.bs 3 = .ok (.invokestatic 194, 3) := by decide +kernel
theorem bNwL_d6 : decode bNwL.bs 6 = .ok (.iadd, 1) := by decide +kernel
theorem bNwL_d7 : decode bNwL.bs 7 = .ok (.istore_n 3, 1) := by decide +kernel
theorem bNwL_d8 : decode bNwL.bs 8 = .ok (.iconst 0, 1) := by decide +kernel
theorem bNwL_d9 : decode bNwL.bs 9 = .ok (.iload_n 3, 1) := by decide +kernel
theorem bNwL_d10 : decode bNwL.bs 10 = .ok (.if_icmp .ge 11, 3) := by decide +kernel
theorem bNwL_d13 : decode bNwL.bs 13 = .ok (.iload_n 3, 1) := by decide +kernel
theorem bNwL_d14 : decode bNwL.bs 14 = .ok (.ldc 200, 2) := by decide +kernel
theorem bNwL_d16 : decode bNwL.bs 16 = .ok (.if_icmp .gt 5, 3) := by decide +kernel
theorem bNwL_d19 : decode bNwL.bs 19 = .ok (.iload_n 3, 1) := by decide +kernel
theorem bNwL_d20 : decode bNwL.bs 20 = .ok (.ireturn, 1) := by decide +kernel
theorem bNwL_d21 : decode bNwL.bs 21 = .ok (.iload_n 0, 1) := by decide +kernel
theorem bNwL_d22 : decode bNwL.bs 22 = .ok (.iload_n 1, 1) := by decide +kernel
theorem bNwL_d23 : decode bNwL.bs 23 = .ok (.invokestatic 201, 3) := by decide +kernel
theorem bNwL_d26 : decode bNwL.bs 26 = .ok (.ireturn, 1) := by decide +kernel
theorem bNwL_pd : parseMethodDescriptor "(III)I" = some ⟨[.int, .int, .int], (some .int)⟩ := by decide +kernel
theorem bNwL_pn : plainFor bNwL.y = true := plainFor_of_name (show plainName "jdk/internal/util/ArraysSupport" = true from by first | (simp [plainName, overriddenIn]; done) | decide +kernel)
theorem cNwL (l : Launch) (Z : State) (a0 : Array Value) (hw : ∀ d ∈ tables_1, d.before a0 Z = true) (n0 : Nat) (hEW : EW Z a0 consts_1) (i g p : Nat) (h0 : Heap) (σ : Addr → Prop) (hi : 0 < i + max g p) (hb : i + max g p ≤ 2147483639) :
    Road.Con l Z consts_1 n0 false bNwL [] σ #[(.int (Nat.toInt32 i)), (.int (Nat.toInt32 g)), (.int (Nat.toInt32 p))] h0 (fun v h2 _ => v = some (.int (Nat.toInt32 (i + max g p))) ∧ h0 = h2) := by
  refine Road.Con.of bNwL_pn hEW #[.val (.int (Nat.toInt32 i)), .val (.int (Nat.toInt32 g)), .val (.int (Nat.toInt32 p)), .unset] (fun m => Road.ent (Road.laid1 rfl (Road.laid1 rfl (Road.laid1 rfl Road.laid0))) (k := 1) rfl rfl) ?_
  intro D hD
  refine Road.iloadN 0 bNwL_d0 rfl ?_
  refine Road.iloadN 1 bNwL_d1 rfl ?_
  refine Road.iloadN 2 bNwL_d2 rfl ?_
  refine Road.callS (B' := bMax) 3 (argsL := [(.int (Nat.toInt32 g)), (.int (Nat.toInt32 p))]) (rest := [(.int (Nat.toInt32 i))]) 1 bNwL_d3 (wI hw 292 rfl) (wI hw 293 rfl) (wI hw 183 rfl) (wI hw 294 rfl) (by decide) (cMax l Z a0 hw n0 hEW g p h0 σ (by omega) (by omega)) (lenOf bMax_pd rfl) rfl rfl rfl (by decide) (by decide) (ce' := 0) (sl' := 0) rfl rfl (by decide) (by decide) ?_
  rintro _ h_1 σ_2 m_3 ⟨rfl, rfl⟩
  refine Road.Go.weaken (σ' := σ) m_3 (Nat.le_refl _) (Nat.le_refl _) ?_
  refine Road.iadd 6 bNwL_d6 ?_
  refine Road.nameI ?_
  intro z_5 hz_5
  obtain rfl : z_5 = (Nat.toInt32 (i + max g p)) := by rw [hz_5]; exact Road.add32n _ _
  refine Road.istoreN 7 #[.val (.int (Nat.toInt32 i)), .val (.int (Nat.toInt32 g)), .val (.int (Nat.toInt32 p)), .val (.int (Nat.toInt32 (i + max g p)))] bNwL_d7 rfl ?_
  refine Road.iconst 8 (0 : Int32) bNwL_d8 rfl ?_
  refine Road.iloadN 9 bNwL_d9 rfl ?_
  refine Road.icmp_ge 10 21 bNwL_d10 rfl (fun q => absurd q (by rw [Decidable.not_not, show (0 : Int32) = Nat.toInt32 0 from rfl, Road.lt32 (by omega) (by omega)]; exact hi)) (fun hc10 => ?_)
  refine Road.iloadN 13 bNwL_d13 rfl ?_
  refine Road.ldcI 14 bNwL_d14 (wI hw 295 rfl) ?_
  refine Road.icmp_gt 16 21 bNwL_d16 rfl (fun q => absurd q (by rw [show (2147483639 : Int32) = Nat.toInt32 2147483639 from rfl, Road.lt32 (by omega) (by omega)]; omega)) (fun hc16 => ?_)
  refine Road.iloadN 19 bNwL_d19 rfl ?_
  exact Road.iretI 20 bNwL_d20 rfl (by decide) (by decide) (fun σ' m => ⟨rfl, rfl⟩)
def bNwC : Road.Bdy := (⟨"java/lang/AbstractStringBuilder", "newCapacity", "(I)I"⟩, jdk_68_method_10_code, 6, (some .int), { frames := 2, cells := 0, slots := 0, locals := 29 })
theorem bNwC_d0 : decode bNwC.bs 0 = .ok (.aload_n 0, 1) := by decide +kernel
theorem bNwC_d1 : decode bNwC.bs 1 = .ok (.getfield 15, 3) := by decide +kernel
theorem bNwC_d4 : decode bNwC.bs 4 = .ok (.arraylength, 1) := by decide +kernel
theorem bNwC_d5 : decode bNwC.bs 5 = .ok (.istore_n 2, 1) := by decide +kernel
theorem bNwC_d6 : decode bNwC.bs 6 = .ok (.iload_n 1, 1) := by decide +kernel
theorem bNwC_d7 : decode bNwC.bs 7 = .ok (.aload_n 0, 1) := by decide +kernel
theorem bNwC_d8 : decode bNwC.bs 8 = .ok (.getfield 22, 3) := by decide +kernel
theorem bNwC_d11 : decode bNwC.bs 11 = .ok (.ishl, 1) := by decide +kernel
theorem bNwC_d12 : decode bNwC.bs 12 = .ok (.istore_n 3, 1) := by decide +kernel
theorem bNwC_d13 : decode bNwC.bs 13 = .ok (.iload_n 3, 1) := by decide +kernel
theorem bNwC_d14 : decode bNwC.bs 14 = .ok (.iload_n 2, 1) := by decide +kernel
theorem bNwC_d15 : decode bNwC.bs 15 = .ok (.isub, 1) := by decide +kernel
theorem bNwC_d16 : decode bNwC.bs 16 = .ok (.istore 4, 2) := by decide +kernel
theorem bNwC_d18 : decode bNwC.bs 18 = .ok (.iload_n 2, 1) := by decide +kernel
theorem bNwC_d19 : decode bNwC.bs 19 = .ok (.iload 4, 2) := by decide +kernel
theorem bNwC_d21 : decode bNwC.bs 21 = .ok (.iload_n 2, 1) := by decide +kernel
theorem bNwC_d22 : decode bNwC.bs 22 = .ok (.iconst 2, 1) := by decide +kernel
theorem bNwC_d23 : decode bNwC.bs 23 = .ok (.aload_n 0, 1) := by decide +kernel
theorem bNwC_d24 : decode bNwC.bs 24 = .ok (.getfield 22, 3) := by decide +kernel
theorem bNwC_d27 : decode bNwC.bs 27 = .ok (.ishl, 1) := by decide +kernel
theorem bNwC_d28 : decode bNwC.bs 28 = .ok (.iadd, 1) := by decide +kernel
theorem bNwC_d29 : decode bNwC.bs 29 = .ok (.invokestatic 114, 3) := by decide +kernel
theorem bNwC_d32 : decode bNwC.bs 32 = .ok (.istore 5, 2) := by decide +kernel
theorem bNwC_d34 : decode bNwC.bs 34 = .ok (.iload 5, 2) := by decide +kernel
theorem bNwC_d36 : decode bNwC.bs 36 = .ok (.ldc 39, 2) := by decide +kernel
theorem bNwC_d38 : decode bNwC.bs 38 = .ok (.if_icmp .ne 13, 3) := by decide +kernel
theorem bNwC_d41 : decode bNwC.bs 41 = .ok (.new 120, 3) := by decide +kernel
theorem bNwC_d44 : decode bNwC.bs 44 = .ok (.dup, 1) := by decide +kernel
theorem bNwC_d45 : decode bNwC.bs 45 = .ok (.ldc 122, 2) := by decide +kernel
theorem bNwC_d47 : decode bNwC.bs 47 = .ok (.invokespecial 124, 3) := by decide +kernel
theorem bNwC_d50 : decode bNwC.bs 50 = .ok (.athrow, 1) := by decide +kernel
theorem bNwC_d51 : decode bNwC.bs 51 = .ok (.iload 5, 2) := by decide +kernel
theorem bNwC_d53 : decode bNwC.bs 53 = .ok (.aload_n 0, 1) := by decide +kernel
theorem bNwC_d54 : decode bNwC.bs 54 = .ok (.getfield 22, 3) := by decide +kernel
theorem bNwC_d57 : decode bNwC.bs 57 = .ok (.ishr, 1) := by decide +kernel
theorem bNwC_d58 : decode bNwC.bs 58 = .ok (.ireturn, 1) := by decide +kernel
theorem bNwC_pd : parseMethodDescriptor "(I)I" = some ⟨[.int], (some .int)⟩ := by decide +kernel
theorem bNwC_pn : plainFor bNwC.y = true := plainFor_of_name (show plainName "java/lang/AbstractStringBuilder" = true from by first | (simp [plainName, overriddenIn]; done) | decide +kernel)
theorem cNwC (l : Launch) (Z : State) (a0 : Array Value) (hw : ∀ d ∈ tables_1, d.before a0 Z = true) (n0 : Nat) (hEW : EW Z a0 consts_1) (q b : Addr) (cs : List Int32) (N : Nat) (m : Nat) (h0 : Heap) (σ : Addr → Prop) (S : Road.Sb Z h0 q b cs N) (hm : N < m) (hb : max m (2 * N + 2) ≤ 2147483639) :
    Road.Con l Z consts_1 n0 false bNwC [] σ #[(.ref q), (.int (Nat.toInt32 m))] h0 (fun v h2 _ => v = some (.int (Nat.toInt32 (max m (2 * N + 2)))) ∧ h0 = h2) := by
  have hN := S.small
  have hle := S.le
  obtain ⟨E, Fc, Fv, Fn, ⟨r, Ab, hr⟩, hlt⟩ := S
  refine Road.Con.of bNwC_pn hEW #[.val (.ref q), .val (.int (Nat.toInt32 m)), .unset, .unset, .unset, .unset] (fun m => Road.ent (Road.laid1 rfl (Road.laid1 rfl Road.laid0)) (k := 4) rfl rfl) ?_
  intro D hD
  refine Road.aloadN 0 bNwC_d0 rfl ?_
  refine Road.getfield 1 bNwC_d1 (wI hw 59 rfl) Via.refl Fv ?_
  refine Road.alen 4 (Nat.toInt32 N) bNwC_d4 Ab (n := N) (by rw [List.length_append, List.length_map]; exact hr) rfl ?_
  refine Road.istoreN 5 #[.val (.ref q), .val (.int (Nat.toInt32 m)), .val (.int (Nat.toInt32 N)), .unset, .unset, .unset] bNwC_d5 rfl ?_
  refine Road.iloadN 6 bNwC_d6 rfl ?_
  refine Road.aloadN 7 bNwC_d7 rfl ?_
  refine Road.getfield 8 bNwC_d8 (wI hw 61 rfl) Via.refl Fc ?_
  refine Road.ishl 11 bNwC_d11 ?_
  refine Road.nameI ?_
  intro z_1 hz_1
  obtain rfl : z_1 = (Nat.toInt32 m) := by rw [hz_1]; exact Road.shl0 _
  refine Road.istoreN 12 #[.val (.ref q), .val (.int (Nat.toInt32 m)), .val (.int (Nat.toInt32 N)), .val (.int (Nat.toInt32 m)), .unset, .unset] bNwC_d12 rfl ?_
  refine Road.iloadN 13 bNwC_d13 rfl ?_
  refine Road.iloadN 14 bNwC_d14 rfl ?_
  refine Road.isub 15 bNwC_d15 ?_
  refine Road.nameI ?_
  intro z_2 hz_2
  obtain rfl : z_2 = (Nat.toInt32 (m - N)) := by rw [hz_2]; exact Road.sub32n (by omega)
  refine Road.istore 16 #[.val (.ref q), .val (.int (Nat.toInt32 m)), .val (.int (Nat.toInt32 N)), .val (.int (Nat.toInt32 m)), .val (.int (Nat.toInt32 (m - N))), .unset] bNwC_d16 rfl ?_
  refine Road.iloadN 18 bNwC_d18 rfl ?_
  refine Road.iload 19 bNwC_d19 rfl ?_
  refine Road.iloadN 21 bNwC_d21 rfl ?_
  refine Road.iconst 22 (2 : Int32) bNwC_d22 rfl ?_
  refine Road.aloadN 23 bNwC_d23 rfl ?_
  refine Road.getfield 24 bNwC_d24 (wI hw 61 rfl) Via.refl Fc ?_
  refine Road.ishl 27 bNwC_d27 ?_
  refine Road.nameI ?_
  intro z_3 hz_3
  obtain rfl : z_3 = (2 : Int32) := by rw [hz_3]; exact Road.shl0 _
  refine Road.iadd 28 bNwC_d28 ?_
  refine Road.nameI ?_
  intro z_4 hz_4
  obtain rfl : z_4 = (Nat.toInt32 (N + 2)) := by rw [hz_4]; exact Road.add32n N 2
  refine Road.callS (B' := bNwL) 29 (argsL := [(.int (Nat.toInt32 N)), (.int (Nat.toInt32 (m - N))), (.int (Nat.toInt32 (N + 2)))]) (rest := []) 0 bNwC_d29 (wI hw 288 rfl) (wI hw 289 rfl) (wI hw 290 rfl) (wI hw 291 rfl) (by decide) (cNwL l Z a0 hw n0 hEW N (m - N) (N + 2) h0 σ (by omega) (by omega)) (lenOf bNwL_pd rfl) rfl rfl rfl (by decide) (by decide) (ce' := 0) (sl' := 0) rfl rfl (by decide) (by decide) ?_
  rintro _ h_5 σ_6 m_7 ⟨rfl, rfl⟩
  refine Road.Go.weaken (σ' := σ) m_7 (Nat.le_refl _) (Nat.le_refl _) ?_
  refine Road.nameI ?_
  intro z_9 hz_9
  obtain rfl : z_9 = (Nat.toInt32 (max m (2 * N + 2))) := by rw [hz_9]; congr 1; omega
  refine Road.istore 32 #[.val (.ref q), .val (.int (Nat.toInt32 m)), .val (.int (Nat.toInt32 N)), .val (.int (Nat.toInt32 m)), .val (.int (Nat.toInt32 (m - N))), .val (.int (Nat.toInt32 (max m (2 * N + 2))))] bNwC_d32 rfl ?_
  refine Road.iload 34 bNwC_d34 rfl ?_
  refine Road.ldcI 36 bNwC_d36 (wI hw 296 rfl) ?_
  refine Road.icmp_ne 38 51 bNwC_d38 rfl (fun hc38 => ?_) (fun q => absurd q (by rw [show (2147483647 : Int32) = Nat.toInt32 2147483647 from rfl, Road.eq32 (by omega) (by omega)]; omega))
  refine Road.iload 51 bNwC_d51 rfl ?_
  refine Road.aloadN 53 bNwC_d53 rfl ?_
  refine Road.getfield 54 bNwC_d54 (wI hw 61 rfl) Via.refl Fc ?_
  refine Road.ishr 57 bNwC_d57 ?_
  exact Road.iretI 58 bNwC_d58 rfl (by decide) (by decide) (fun σ' m => ⟨by rw [Road.shr0], rfl⟩)
def bNc0 : Road.Bdy := (⟨"java/lang/AbstractStringBuilder", "newCapacity", "(I)I"⟩, jdk_68_method_10_code, 6, (some .int), { frames := 2, cells := 0, slots := 0, locals := 29 })
theorem bNc0_pd : parseMethodDescriptor "(I)I" = some ⟨[.int], (some .int)⟩ := by decide +kernel
theorem bNc0_pn : plainFor bNc0.y = true := plainFor_of_name (show plainName "java/lang/AbstractStringBuilder" = true from by first | (simp [plainName, overriddenIn]; done) | decide +kernel)
theorem cNc0 (l : Launch) (Z : State) (a0 : Array Value) (hw : ∀ d ∈ tables_1, d.before a0 Z = true) (n0 : Nat) (hEW : EW Z a0 consts_1) (q b : Addr) (cs : List Int32) (N : Nat) (m : Nat) (h0 : Heap) (σ : Addr → Prop) (S : Road.Sb0 Z h0 q b cs N) (hm : N < m) (hb : max m (2 * N + 2) ≤ 1073741000) :
    Road.Con l Z consts_1 n0 false bNc0 [] σ #[(.ref q), (.int (Nat.toInt32 m))] h0 (fun v h2 _ => v = some (.int (Nat.toInt32 (max m (2 * N + 2)))) ∧ h0 = h2) := by
  have hN := S.small
  have hle := S.le
  have S0 := S
  obtain ⟨E, Fc, Fv, Fn, ⟨r, Ab, hr⟩, hlt, Fy, EB⟩ := S
  refine Road.Con.of bNc0_pn hEW #[.val (.ref q), .val (.int (Nat.toInt32 m)), .unset, .unset, .unset, .unset] (fun m => Road.ent (Road.laid1 rfl (Road.laid1 rfl Road.laid0)) (k := 4) rfl rfl) ?_
  intro D hD
  refine Road.aloadN 0 bNwC_d0 rfl ?_
  refine Road.getfield 1 bNwC_d1 (wI hw 59 rfl) Via.refl Fv ?_
  refine Road.alen 4 (Nat.toInt32 N) bNwC_d4 Ab (n := N) (by rw [List.length_append, List.length_map]; exact hr) rfl ?_
  refine Road.istoreN 5 #[.val (.ref q), .val (.int (Nat.toInt32 m)), .val (.int (Nat.toInt32 N)), .unset, .unset, .unset] bNwC_d5 rfl ?_
  refine Road.iloadN 6 bNwC_d6 rfl ?_
  refine Road.aloadN 7 bNwC_d7 rfl ?_
  refine Road.getfield 8 bNwC_d8 (wI hw 61 rfl) Via.refl Fc ?_
  refine Road.ishl 11 bNwC_d11 ?_
  refine Road.nameI ?_
  intro z_1 hz_1
  obtain rfl : z_1 = (Nat.toInt32 m) := by rw [hz_1]; exact Road.shl0 _
  refine Road.istoreN 12 #[.val (.ref q), .val (.int (Nat.toInt32 m)), .val (.int (Nat.toInt32 N)), .val (.int (Nat.toInt32 m)), .unset, .unset] bNwC_d12 rfl ?_
  refine Road.iloadN 13 bNwC_d13 rfl ?_
  refine Road.iloadN 14 bNwC_d14 rfl ?_
  refine Road.isub 15 bNwC_d15 ?_
  refine Road.nameI ?_
  intro z_2 hz_2
  obtain rfl : z_2 = (Nat.toInt32 (m - N)) := by rw [hz_2]; exact Road.sub32n (by omega)
  refine Road.istore 16 #[.val (.ref q), .val (.int (Nat.toInt32 m)), .val (.int (Nat.toInt32 N)), .val (.int (Nat.toInt32 m)), .val (.int (Nat.toInt32 (m - N))), .unset] bNwC_d16 rfl ?_
  refine Road.iloadN 18 bNwC_d18 rfl ?_
  refine Road.iload 19 bNwC_d19 rfl ?_
  refine Road.iloadN 21 bNwC_d21 rfl ?_
  refine Road.iconst 22 (2 : Int32) bNwC_d22 rfl ?_
  refine Road.aloadN 23 bNwC_d23 rfl ?_
  refine Road.getfield 24 bNwC_d24 (wI hw 61 rfl) Via.refl Fc ?_
  refine Road.ishl 27 bNwC_d27 ?_
  refine Road.nameI ?_
  intro z_3 hz_3
  obtain rfl : z_3 = (2 : Int32) := by rw [hz_3]; rfl
  refine Road.iadd 28 bNwC_d28 ?_
  refine Road.nameI ?_
  intro z_4 hz_4
  obtain rfl : z_4 = (Nat.toInt32 (N + 2)) := by rw [hz_4]; exact Road.add32n N 2
  refine Road.callS (B' := bNwL) 29 (argsL := [(.int (Nat.toInt32 N)), (.int (Nat.toInt32 (m - N))), (.int (Nat.toInt32 (N + 2)))]) (rest := []) 0 bNwC_d29 (wI hw 288 rfl) (wI hw 289 rfl) (wI hw 290 rfl) (wI hw 291 rfl) (by decide) (cNwL l Z a0 hw n0 hEW N (m - N) (N + 2) h0 σ (by omega) (by omega)) (lenOf bNwL_pd rfl) rfl rfl rfl (by decide) (by decide) (ce' := 0) (sl' := 0) rfl rfl (by decide) (by decide) ?_
  rintro _ h_5 σ_6 m_7 ⟨rfl, rfl⟩
  refine Road.Go.weaken (σ' := σ) m_7 (Nat.le_refl _) (Nat.le_refl _) ?_
  refine Road.nameI ?_
  intro z_9 hz_9
  obtain rfl : z_9 = (Nat.toInt32 (max m (2 * N + 2))) := by rw [hz_9]; congr 1; omega
  refine Road.istore 32 #[.val (.ref q), .val (.int (Nat.toInt32 m)), .val (.int (Nat.toInt32 N)), .val (.int (Nat.toInt32 m)), .val (.int (Nat.toInt32 (m - N))), .val (.int (Nat.toInt32 (max m (2 * N + 2))))] bNwC_d32 rfl ?_
  refine Road.iload 34 bNwC_d34 rfl ?_
  refine Road.ldcI 36 bNwC_d36 (wI hw 296 rfl) ?_
  refine Road.icmp_ne 38 51 bNwC_d38 rfl (fun hc38 => ?_) (fun q => absurd q (by rw [show (2147483647 : Int32) = Nat.toInt32 2147483647 from rfl, Road.eq32 (by omega) (by omega)]; omega))
  refine Road.iload 51 bNwC_d51 rfl ?_
  refine Road.aloadN 53 bNwC_d53 rfl ?_
  refine Road.getfield 54 bNwC_d54 (wI hw 61 rfl) Via.refl Fc ?_
  refine Road.ishr 57 bNwC_d57 ?_
  refine Road.nameI ?_
  intro z_10 hz_10
  obtain rfl : z_10 = (Nat.toInt32 (max m (2 * N + 2))) := by rw [hz_10]; exact Road.shr0 _
  exact Road.iretI 58 bNwC_d58 rfl (by decide) (by decide) (fun σ' m => ⟨rfl, rfl⟩)
def bEa0 : Road.Bdy := (⟨"java/lang/AbstractStringBuilder", "ensureCapacityInternal", "(I)V"⟩, jdk_68_method_9_code, 3, none, { frames := 0, cells := 0, slots := 0, locals := 0 })
theorem bEa0_d0 : decode bEa0.bs 0 = .ok (.aload_n 0, 1) := by decide +kernel
theorem bEa0_d1 : decode bEa0.bs 1 = .ok (.getfield 15, 3) := by decide +kernel
theorem bEa0_d4 : decode bEa0.bs 4 = .ok (.arraylength, 1) := by decide +kernel
theorem bEa0_d5 : decode bEa0.bs 5 = .ok (.aload_n 0, 1) := by decide +kernel
theorem bEa0_d6 : decode bEa0.bs 6 = .ok (.getfield 22, 3) := by decide +kernel
theorem bEa0_d9 : decode bEa0.bs 9 = .ok (.ishr, 1) := by decide +kernel
theorem bEa0_d10 : decode bEa0.bs 10 = .ok (.istore_n 2, 1) := by decide +kernel
theorem bEa0_d11 : decode bEa0.bs 11 = .ok (.iload_n 1, 1) := by decide +kernel
theorem bEa0_d12 : decode bEa0.bs 12 = .ok (.iload_n 2, 1) := by decide +kernel
theorem bEa0_d13 : decode bEa0.bs 13 = .ok (.isub, 1) := by decide +kernel
theorem bEa0_d14 : decode bEa0.bs 14 = .ok (.ifCond .le 24, 3) := by decide +kernel
theorem bEa0_d17 : decode bEa0.bs 17 = .ok (.aload_n 0, 1) := by decide +kernel
theorem bEa0_d18 : decode bEa0.bs 18 = .ok (.aload_n 0, 1) := by decide +kernel
theorem bEa0_d19 : decode bEa0.bs 19 = .ok (.getfield 15, 3) := by decide +kernel
theorem bEa0_d22 : decode bEa0.bs 22 = .ok (.aload_n 0, 1) := by decide +kernel
theorem bEa0_d23 : decode bEa0.bs 23 = .ok (.iload_n 1, 1) := by decide +kernel
theorem bEa0_d24 : decode bEa0.bs 24 = .ok (.invokevirtual 104, 3) := by decide +kernel
theorem bEa0_d27 : decode bEa0.bs 27 = .ok (.aload_n 0, 1) := by decide +kernel
theorem bEa0_d28 : decode bEa0.bs 28 = .ok (.getfield 22, 3) := by decide +kernel
theorem bEa0_d31 : decode bEa0.bs 31 = .ok (.ishl, 1) := by decide +kernel
theorem bEa0_d32 : decode bEa0.bs 32 = .ok (.invokestatic 108, 3) := by decide +kernel
theorem bEa0_d35 : decode bEa0.bs 35 = .ok (.putfield 15, 3) := by decide +kernel
theorem bEa0_d38 : decode bEa0.bs 38 = .ok (.return_, 1) := by decide +kernel
theorem bEa0_pd : parseMethodDescriptor "(I)V" = some ⟨[.int], none⟩ := by decide +kernel
theorem bEa0_pn : plainFor bEa0.y = true := plainFor_of_name (show plainName "java/lang/AbstractStringBuilder" = true from by first | (simp [plainName, overriddenIn]; done) | decide +kernel)
theorem cEa0 (l : Launch) (Z : State) (a0 : Array Value) (hw : ∀ d ∈ tables_1, d.before a0 Z = true) (n0 : Nat) (hEW : EW Z a0 consts_1) (q b : Addr) (cs : List Int32) (N : Nat) (m : Nat) (h0 : Heap) (σ : Addr → Prop) (S : Road.Sb0 Z h0 q b cs N) (hm : m ≤ N) :
    Road.Con l Z consts_1 n0 false bEa0 [] σ #[(.ref q), (.int (Nat.toInt32 m))] h0 (fun v h2 _ => v = none ∧ h0 = h2) := by
  have hN := S.small
  have hle := S.le
  have S0 := S
  obtain ⟨E, Fc, Fv, Fn, ⟨r, Ab, hr⟩, hlt, Fy, EB⟩ := S
  refine Road.Con.of bEa0_pn hEW #[.val (.ref q), .val (.int (Nat.toInt32 m)), .unset] (fun m => Road.ent (Road.laid1 rfl (Road.laid1 rfl Road.laid0)) (k := 1) rfl rfl) ?_
  intro D hD
  refine Road.aloadN 0 bEa0_d0 rfl ?_
  refine Road.getfield 1 bEa0_d1 (wI hw 59 rfl) Via.refl Fv ?_
  refine Road.alen 4 (Nat.toInt32 N) bEa0_d4 Ab (n := N) (by rw [List.length_append, List.length_map]; exact hr) rfl ?_
  refine Road.aloadN 5 bEa0_d5 rfl ?_
  refine Road.getfield 6 bEa0_d6 (wI hw 61 rfl) Via.refl Fc ?_
  refine Road.ishr 9 bEa0_d9 ?_
  refine Road.nameI ?_
  intro z_1 hz_1
  obtain rfl : z_1 = (Nat.toInt32 N) := by rw [hz_1]; exact Road.shr0 _
  refine Road.istoreN 10 #[.val (.ref q), .val (.int (Nat.toInt32 m)), .val (.int (Nat.toInt32 N))] bEa0_d10 rfl ?_
  refine Road.iloadN 11 bEa0_d11 rfl ?_
  refine Road.iloadN 12 bEa0_d12 rfl ?_
  refine Road.isub 13 bEa0_d13 ?_
  refine Road.if_le 14 38 bEa0_d14 rfl (fun hc14 => ?_) (fun q => absurd q (by rw [Road.gsub (by omega) (by omega)]; omega))
  exact Road.ret 38 bEa0_d38 rfl (by decide) (by decide) (fun σ' m => ⟨rfl, rfl⟩)
def bEg0 : Road.Bdy := (⟨"java/lang/AbstractStringBuilder", "ensureCapacityInternal", "(I)V"⟩, jdk_68_method_9_code, 3, none, { frames := 3, cells := 1, slots := 68, locals := 48 })
theorem bEg0_pd : parseMethodDescriptor "(I)V" = some ⟨[.int], none⟩ := by decide +kernel
theorem bEg0_pn : plainFor bEg0.y = true := plainFor_of_name (show plainName "java/lang/AbstractStringBuilder" = true from by first | (simp [plainName, overriddenIn]; done) | decide +kernel)
theorem cEg0 (l : Launch) (Z : State) (a0 : Array Value) (hw : ∀ d ∈ tables_1, d.before a0 Z = true) (n0 : Nat) (hEW : EW Z a0 consts_1) (q b : Addr) (cs : List Int32) (N : Nat) (m : Nat) (h0 : Heap) (σ : Addr → Prop) (S : Road.Sb0 Z h0 q b cs N) (hm : N < m) (hcap : max m (2 * N + 2) ≤ 34) (sq : σ q) :
    Road.Con l Z consts_1 n0 false bEg0 [] σ #[(.ref q), (.int (Nat.toInt32 m))] h0 (fun v h2 s2 => v = none ∧ Keep h0 h2 [q] ∧ ∃ d, Road.Sb0 Z h2 q d cs (max m (2 * N + 2)) ∧ h0.size ≤ d ∧ s2 d) := by
  have hN := S.small
  have hle := S.le
  have S0 := S
  obtain ⟨E, Fc, Fv, Fn, ⟨r, Ab, hr⟩, hlt, Fy, EB⟩ := S
  have nqb : q ≠ b := by obtain ⟨c, Ar, -⟩ := Ab; exact ne_arr E (wI hw 46 rfl) Ar
  refine Road.Con.of bEg0_pn hEW #[.val (.ref q), .val (.int (Nat.toInt32 m)), .unset] (fun m => Road.ent (Road.laid1 rfl (Road.laid1 rfl Road.laid0)) (k := 1) rfl rfl) ?_
  intro D hD
  refine Road.aloadN 0 bEa0_d0 rfl ?_
  refine Road.getfield 1 bEa0_d1 (wI hw 59 rfl) Via.refl Fv ?_
  refine Road.alen 4 (Nat.toInt32 N) bEa0_d4 Ab (n := N) (by rw [List.length_append, List.length_map]; exact hr) rfl ?_
  refine Road.aloadN 5 bEa0_d5 rfl ?_
  refine Road.getfield 6 bEa0_d6 (wI hw 61 rfl) Via.refl Fc ?_
  refine Road.ishr 9 bEa0_d9 ?_
  refine Road.nameI ?_
  intro z_1 hz_1
  obtain rfl : z_1 = (Nat.toInt32 N) := by rw [hz_1]; exact Road.shr0 _
  refine Road.istoreN 10 #[.val (.ref q), .val (.int (Nat.toInt32 m)), .val (.int (Nat.toInt32 N))] bEa0_d10 rfl ?_
  refine Road.iloadN 11 bEa0_d11 rfl ?_
  refine Road.iloadN 12 bEa0_d12 rfl ?_
  refine Road.isub 13 bEa0_d13 ?_
  refine Road.if_le 14 38 bEa0_d14 rfl (fun q => absurd q (by rw [Decidable.not_not, Road.gsub (by omega) (by omega)]; omega)) (fun hc14 => ?_)
  refine Road.aloadN 17 bEa0_d17 rfl ?_
  refine Road.aloadN 18 bEa0_d18 rfl ?_
  refine Road.getfield 19 bEa0_d19 (wI hw 59 rfl) Via.refl Fv ?_
  refine Road.aloadN 22 bEa0_d22 rfl ?_
  refine Road.iloadN 23 bEa0_d23 rfl ?_
  refine Road.callP (B' := bNc0) (a := q) 24 (argsL := [(.int (Nat.toInt32 m))]) (rest := [(.ref b), (.ref q)]) "java/lang/StringBuilder" 2 bEa0_d24 (wI hw 283 rfl) (wI hw 285 rfl) (wI hw 286 rfl) (wI hw 284 rfl) (wI hw 55 rfl) (wI hw 287 rfl) (by decide) E (cNc0 l Z a0 hw n0 hEW q b cs N m h0 σ S0 hm (by omega)) (lenOf bNc0_pd rfl) rfl rfl rfl (by decide) (by decide) (ce' := 0) (sl' := 0) rfl rfl (by decide) (by decide) ?_
  rintro _ h_2 σ_3 m_4 ⟨rfl, rfl⟩
  refine Road.Go.weaken (σ' := σ) m_4 (Nat.le_refl _) (Nat.le_refl _) ?_
  refine Road.aloadN 27 bEa0_d27 rfl ?_
  refine Road.getfield 28 bEa0_d28 (wI hw 61 rfl) Via.refl Fc ?_
  refine Road.ishl 31 bEa0_d31 ?_
  refine Road.nameI ?_
  intro z_6 hz_6
  obtain rfl : z_6 = (Nat.toInt32 (max m (2 * N + 2))) := by rw [hz_6]; exact Road.shl0 _
  refine Road.callS (B' := bCpO) 32 (argsL := [(.ref b), (.int (Nat.toInt32 (max m (2 * N + 2))))]) (rest := [(.ref q)]) 1 bEa0_d32 (wI hw 297 rfl) (wI hw 298 rfl) (wI hw 173 rfl) (wI hw 299 rfl) (by decide) (cCpO l Z a0 hw n0 hEW b _ (max m (2 * N + 2)) h0 σ Ab (by simp only [List.length_append, List.length_map, Road.utf_len, List.length_replicate, List.length_drop, List.length_cons, List.length_nil]; omega) (by omega)) (lenOf bCpO_pd rfl) rfl rfl rfl (by decide) (by decide) (ce' := 1) (sl' := 68) rfl rfl (by decide) (by decide) ?_
  rintro _ h_7 σ_8 m_9 ⟨d, rfl, gd, K_10, sd, Ad, ED⟩
  have ne_q_d : q ≠ d := Nat.ne_of_lt (Nat.lt_of_lt_of_le E.lt gd)
  replace E := E.keep K_10
  replace Fc := Fc.keep K_10 nin0
  replace Fv := Fv.keep K_10 nin0
  replace Fn := Fn.keep K_10 nin0
  replace Fy := Fy.keep K_10 nin0
  replace sq := m_9 _ sq
  refine Road.putfield 35 bEa0_d35 (wI hw 59 rfl) Via.refl Fv E (Or.inl (wI hw 60 rfl)) (wI hw 46 rfl) (ty := (.array .byte)) (by decide) rfl rfl sq ?_
  intro h_14 W_12 K_13
  replace Fv := Fv.same W_12
  replace Fc := Fc.other W_12 (Or.inr (slot_ne (Or.inl (wI hw 62 rfl)) (Or.inl (wI hw 60 rfl)) (by decide) (t := .byte) (by decide) (t' := (.array .byte)) (by decide)))
  replace Fn := Fn.other W_12 (Or.inr (slot_ne (Or.inl (wI hw 91 rfl)) (Or.inl (wI hw 60 rfl)) (by decide) (t := .int) (by decide) (t' := (.array .byte)) (by decide)))
  replace Fy := Fy.other W_12 (Or.inr (slot_ne (Or.inl (wI hw 279 rfl)) (Or.inl (wI hw 60 rfl)) (by decide) (t := .boolean) (by decide) (t' := (.array .byte)) (by decide)))
  replace E := E.keep K_13
  replace Ad := Ad.keep K_13 (ninS (Ne.symm ne_q_d) nin0)
  replace ED := ED.keep K_13
  exact Road.ret 38 bEa0_d38 rfl (by decide) (by decide) (fun σ' m => ⟨rfl, (Road.keep_more K_10).trans K_13 (by simp), d, ⟨E, Fc, Fv, Fn, ⟨_, by rw [List.append_assoc] at Ad; exact Ad, by simp only [List.length_append, List.length_map, Road.utf_len, List.length_replicate, List.length_drop, List.length_cons, List.length_nil]; omega⟩, hlt, Fy, ED⟩, gd, m _ sd⟩)
def bNc1 : Road.Bdy := (⟨"java/lang/AbstractStringBuilder", "newCapacity", "(I)I"⟩, jdk_68_method_10_code, 6, (some .int), { frames := 2, cells := 0, slots := 0, locals := 29 })
theorem bNc1_pd : parseMethodDescriptor "(I)I" = some ⟨[.int], (some .int)⟩ := by decide +kernel
theorem bNc1_pn : plainFor bNc1.y = true := plainFor_of_name (show plainName "java/lang/AbstractStringBuilder" = true from by first | (simp [plainName, overriddenIn]; done) | decide +kernel)
theorem cNc1 (l : Launch) (Z : State) (a0 : Array Value) (hw : ∀ d ∈ tables_1, d.before a0 Z = true) (n0 : Nat) (hEW : EW Z a0 consts_1) (q b : Addr) (cs : List Int32) (N : Nat) (m : Nat) (h0 : Heap) (σ : Addr → Prop) (S : Road.Sb1 Z h0 q b cs N) (hm : N < m) (hb : max m (2 * N + 2) ≤ 1073741000) :
    Road.Con l Z consts_1 n0 false bNc1 [] σ #[(.ref q), (.int (Nat.toInt32 m))] h0 (fun v h2 _ => v = some (.int (Nat.toInt32 (max m (2 * N + 2)))) ∧ h0 = h2) := by
  have hN := S.small
  have hle := S.le
  have S0 := S
  obtain ⟨E, Fc, Fv, Fn, ⟨r, Ab, hr⟩, hlt, Fy, EB⟩ := S
  refine Road.Con.of bNc1_pn hEW #[.val (.ref q), .val (.int (Nat.toInt32 m)), .unset, .unset, .unset, .unset] (fun m => Road.ent (Road.laid1 rfl (Road.laid1 rfl Road.laid0)) (k := 4) rfl rfl) ?_
  intro D hD
  refine Road.aloadN 0 bNwC_d0 rfl ?_
  refine Road.getfield 1 bNwC_d1 (wI hw 59 rfl) Via.refl Fv ?_
  refine Road.alen 4 (Nat.toInt32 (2 * N)) bNwC_d4 Ab (n := (2 * N)) (by rw [List.length_append, Road.utf_len]; exact hr) rfl ?_
  refine Road.istoreN 5 #[.val (.ref q), .val (.int (Nat.toInt32 m)), .val (.int (Nat.toInt32 (2 * N))), .unset, .unset, .unset] bNwC_d5 rfl ?_
  refine Road.iloadN 6 bNwC_d6 rfl ?_
  refine Road.aloadN 7 bNwC_d7 rfl ?_
  refine Road.getfield 8 bNwC_d8 (wI hw 61 rfl) Via.refl Fc ?_
  refine Road.ishl 11 bNwC_d11 ?_
  refine Road.nameI ?_
  intro z_1 hz_1
  obtain rfl : z_1 = (Nat.toInt32 (2 * m)) := by rw [hz_1]; exact Road.shl1 _
  refine Road.istoreN 12 #[.val (.ref q), .val (.int (Nat.toInt32 m)), .val (.int (Nat.toInt32 (2 * N))), .val (.int (Nat.toInt32 (2 * m))), .unset, .unset] bNwC_d12 rfl ?_
  refine Road.iloadN 13 bNwC_d13 rfl ?_
  refine Road.iloadN 14 bNwC_d14 rfl ?_
  refine Road.isub 15 bNwC_d15 ?_
  refine Road.nameI ?_
  intro z_2 hz_2
  obtain rfl : z_2 = (Nat.toInt32 ((2 * m) - (2 * N))) := by rw [hz_2]; exact Road.sub32n (by omega)
  refine Road.istore 16 #[.val (.ref q), .val (.int (Nat.toInt32 m)), .val (.int (Nat.toInt32 (2 * N))), .val (.int (Nat.toInt32 (2 * m))), .val (.int (Nat.toInt32 ((2 * m) - (2 * N)))), .unset] bNwC_d16 rfl ?_
  refine Road.iloadN 18 bNwC_d18 rfl ?_
  refine Road.iload 19 bNwC_d19 rfl ?_
  refine Road.iloadN 21 bNwC_d21 rfl ?_
  refine Road.iconst 22 (2 : Int32) bNwC_d22 rfl ?_
  refine Road.aloadN 23 bNwC_d23 rfl ?_
  refine Road.getfield 24 bNwC_d24 (wI hw 61 rfl) Via.refl Fc ?_
  refine Road.ishl 27 bNwC_d27 ?_
  refine Road.nameI ?_
  intro z_3 hz_3
  obtain rfl : z_3 = (4 : Int32) := by rw [hz_3]; rfl
  refine Road.iadd 28 bNwC_d28 ?_
  refine Road.nameI ?_
  intro z_4 hz_4
  obtain rfl : z_4 = (Nat.toInt32 ((2 * N) + 4)) := by rw [hz_4]; exact Road.add32n (2 * N) 4
  refine Road.callS (B' := bNwL) 29 (argsL := [(.int (Nat.toInt32 (2 * N))), (.int (Nat.toInt32 ((2 * m) - (2 * N)))), (.int (Nat.toInt32 ((2 * N) + 4)))]) (rest := []) 0 bNwC_d29 (wI hw 288 rfl) (wI hw 289 rfl) (wI hw 290 rfl) (wI hw 291 rfl) (by decide) (cNwL l Z a0 hw n0 hEW (2 * N) ((2 * m) - (2 * N)) ((2 * N) + 4) h0 σ (by omega) (by omega)) (lenOf bNwL_pd rfl) rfl rfl rfl (by decide) (by decide) (ce' := 0) (sl' := 0) rfl rfl (by decide) (by decide) ?_
  rintro _ h_5 σ_6 m_7 ⟨rfl, rfl⟩
  refine Road.Go.weaken (σ' := σ) m_7 (Nat.le_refl _) (Nat.le_refl _) ?_
  refine Road.nameI ?_
  intro z_9 hz_9
  obtain rfl : z_9 = (Nat.toInt32 (2 * (max m (2 * N + 2)))) := by rw [hz_9]; congr 1; omega
  refine Road.istore 32 #[.val (.ref q), .val (.int (Nat.toInt32 m)), .val (.int (Nat.toInt32 (2 * N))), .val (.int (Nat.toInt32 (2 * m))), .val (.int (Nat.toInt32 ((2 * m) - (2 * N)))), .val (.int (Nat.toInt32 (2 * (max m (2 * N + 2)))))] bNwC_d32 rfl ?_
  refine Road.iload 34 bNwC_d34 rfl ?_
  refine Road.ldcI 36 bNwC_d36 (wI hw 296 rfl) ?_
  refine Road.icmp_ne 38 51 bNwC_d38 rfl (fun hc38 => ?_) (fun q => absurd q (by rw [show (2147483647 : Int32) = Nat.toInt32 2147483647 from rfl, Road.eq32 (by omega) (by omega)]; omega))
  refine Road.iload 51 bNwC_d51 rfl ?_
  refine Road.aloadN 53 bNwC_d53 rfl ?_
  refine Road.getfield 54 bNwC_d54 (wI hw 61 rfl) Via.refl Fc ?_
  refine Road.ishr 57 bNwC_d57 ?_
  refine Road.nameI ?_
  intro z_10 hz_10
  obtain rfl : z_10 = (Nat.toInt32 (max m (2 * N + 2))) := by rw [hz_10]; exact Road.shr1 (by omega)
  exact Road.iretI 58 bNwC_d58 rfl (by decide) (by decide) (fun σ' m => ⟨rfl, rfl⟩)
def bEa1 : Road.Bdy := (⟨"java/lang/AbstractStringBuilder", "ensureCapacityInternal", "(I)V"⟩, jdk_68_method_9_code, 3, none, { frames := 0, cells := 0, slots := 0, locals := 0 })
theorem bEa1_pd : parseMethodDescriptor "(I)V" = some ⟨[.int], none⟩ := by decide +kernel
theorem bEa1_pn : plainFor bEa1.y = true := plainFor_of_name (show plainName "java/lang/AbstractStringBuilder" = true from by first | (simp [plainName, overriddenIn]; done) | decide +kernel)
theorem cEa1 (l : Launch) (Z : State) (a0 : Array Value) (hw : ∀ d ∈ tables_1, d.before a0 Z = true) (n0 : Nat) (hEW : EW Z a0 consts_1) (q b : Addr) (cs : List Int32) (N : Nat) (m : Nat) (h0 : Heap) (σ : Addr → Prop) (S : Road.Sb1 Z h0 q b cs N) (hm : m ≤ N) :
    Road.Con l Z consts_1 n0 false bEa1 [] σ #[(.ref q), (.int (Nat.toInt32 m))] h0 (fun v h2 _ => v = none ∧ h0 = h2) := by
  have hN := S.small
  have hle := S.le
  have S0 := S
  obtain ⟨E, Fc, Fv, Fn, ⟨r, Ab, hr⟩, hlt, Fy, EB⟩ := S
  refine Road.Con.of bEa1_pn hEW #[.val (.ref q), .val (.int (Nat.toInt32 m)), .unset] (fun m => Road.ent (Road.laid1 rfl (Road.laid1 rfl Road.laid0)) (k := 1) rfl rfl) ?_
  intro D hD
  refine Road.aloadN 0 bEa0_d0 rfl ?_
  refine Road.getfield 1 bEa0_d1 (wI hw 59 rfl) Via.refl Fv ?_
  refine Road.alen 4 (Nat.toInt32 (2 * N)) bEa0_d4 Ab (n := (2 * N)) (by rw [List.length_append, Road.utf_len]; exact hr) rfl ?_
  refine Road.aloadN 5 bEa0_d5 rfl ?_
  refine Road.getfield 6 bEa0_d6 (wI hw 61 rfl) Via.refl Fc ?_
  refine Road.ishr 9 bEa0_d9 ?_
  refine Road.nameI ?_
  intro z_1 hz_1
  obtain rfl : z_1 = (Nat.toInt32 N) := by rw [hz_1]; exact Road.shr1 (by omega)
  refine Road.istoreN 10 #[.val (.ref q), .val (.int (Nat.toInt32 m)), .val (.int (Nat.toInt32 N))] bEa0_d10 rfl ?_
  refine Road.iloadN 11 bEa0_d11 rfl ?_
  refine Road.iloadN 12 bEa0_d12 rfl ?_
  refine Road.isub 13 bEa0_d13 ?_
  refine Road.if_le 14 38 bEa0_d14 rfl (fun hc14 => ?_) (fun q => absurd q (by rw [Road.gsub (by omega) (by omega)]; omega))
  exact Road.ret 38 bEa0_d38 rfl (by decide) (by decide) (fun σ' m => ⟨rfl, rfl⟩)
def bEg1 : Road.Bdy := (⟨"java/lang/AbstractStringBuilder", "ensureCapacityInternal", "(I)V"⟩, jdk_68_method_9_code, 3, none, { frames := 3, cells := 1, slots := 68, locals := 48 })
theorem bEg1_pd : parseMethodDescriptor "(I)V" = some ⟨[.int], none⟩ := by decide +kernel
theorem bEg1_pn : plainFor bEg1.y = true := plainFor_of_name (show plainName "java/lang/AbstractStringBuilder" = true from by first | (simp [plainName, overriddenIn]; done) | decide +kernel)
theorem cEg1 (l : Launch) (Z : State) (a0 : Array Value) (hw : ∀ d ∈ tables_1, d.before a0 Z = true) (n0 : Nat) (hEW : EW Z a0 consts_1) (q b : Addr) (cs : List Int32) (N : Nat) (m : Nat) (h0 : Heap) (σ : Addr → Prop) (S : Road.Sb1 Z h0 q b cs N) (hm : N < m) (hcap : max m (2 * N + 2) ≤ 34) (sq : σ q) :
    Road.Con l Z consts_1 n0 false bEg1 [] σ #[(.ref q), (.int (Nat.toInt32 m))] h0 (fun v h2 s2 => v = none ∧ Keep h0 h2 [q] ∧ ∃ d, Road.Sb1 Z h2 q d cs (max m (2 * N + 2)) ∧ h0.size ≤ d ∧ s2 d) := by
  have hN := S.small
  have hle := S.le
  have S0 := S
  obtain ⟨E, Fc, Fv, Fn, ⟨r, Ab, hr⟩, hlt, Fy, EB⟩ := S
  have nqb : q ≠ b := by obtain ⟨c, Ar, -⟩ := Ab; exact ne_arr E (wI hw 46 rfl) Ar
  refine Road.Con.of bEg1_pn hEW #[.val (.ref q), .val (.int (Nat.toInt32 m)), .unset] (fun m => Road.ent (Road.laid1 rfl (Road.laid1 rfl Road.laid0)) (k := 1) rfl rfl) ?_
  intro D hD
  refine Road.aloadN 0 bEa0_d0 rfl ?_
  refine Road.getfield 1 bEa0_d1 (wI hw 59 rfl) Via.refl Fv ?_
  refine Road.alen 4 (Nat.toInt32 (2 * N)) bEa0_d4 Ab (n := (2 * N)) (by rw [List.length_append, Road.utf_len]; exact hr) rfl ?_
  refine Road.aloadN 5 bEa0_d5 rfl ?_
  refine Road.getfield 6 bEa0_d6 (wI hw 61 rfl) Via.refl Fc ?_
  refine Road.ishr 9 bEa0_d9 ?_
  refine Road.nameI ?_
  intro z_1 hz_1
  obtain rfl : z_1 = (Nat.toInt32 N) := by rw [hz_1]; exact Road.shr1 (by omega)
  refine Road.istoreN 10 #[.val (.ref q), .val (.int (Nat.toInt32 m)), .val (.int (Nat.toInt32 N))] bEa0_d10 rfl ?_
  refine Road.iloadN 11 bEa0_d11 rfl ?_
  refine Road.iloadN 12 bEa0_d12 rfl ?_
  refine Road.isub 13 bEa0_d13 ?_
  refine Road.if_le 14 38 bEa0_d14 rfl (fun q => absurd q (by rw [Decidable.not_not, Road.gsub (by omega) (by omega)]; omega)) (fun hc14 => ?_)
  refine Road.aloadN 17 bEa0_d17 rfl ?_
  refine Road.aloadN 18 bEa0_d18 rfl ?_
  refine Road.getfield 19 bEa0_d19 (wI hw 59 rfl) Via.refl Fv ?_
  refine Road.aloadN 22 bEa0_d22 rfl ?_
  refine Road.iloadN 23 bEa0_d23 rfl ?_
  refine Road.callP (B' := bNc1) (a := q) 24 (argsL := [(.int (Nat.toInt32 m))]) (rest := [(.ref b), (.ref q)]) "java/lang/StringBuilder" 2 bEa0_d24 (wI hw 283 rfl) (wI hw 285 rfl) (wI hw 286 rfl) (wI hw 284 rfl) (wI hw 55 rfl) (wI hw 287 rfl) (by decide) E (cNc1 l Z a0 hw n0 hEW q b cs N m h0 σ S0 hm (by omega)) (lenOf bNc1_pd rfl) rfl rfl rfl (by decide) (by decide) (ce' := 0) (sl' := 0) rfl rfl (by decide) (by decide) ?_
  rintro _ h_2 σ_3 m_4 ⟨rfl, rfl⟩
  refine Road.Go.weaken (σ' := σ) m_4 (Nat.le_refl _) (Nat.le_refl _) ?_
  refine Road.aloadN 27 bEa0_d27 rfl ?_
  refine Road.getfield 28 bEa0_d28 (wI hw 61 rfl) Via.refl Fc ?_
  refine Road.ishl 31 bEa0_d31 ?_
  refine Road.nameI ?_
  intro z_6 hz_6
  obtain rfl : z_6 = (Nat.toInt32 (2 * (max m (2 * N + 2)))) := by rw [hz_6]; exact Road.shl1 _
  refine Road.callS (B' := bCpO) 32 (argsL := [(.ref b), (.int (Nat.toInt32 (2 * (max m (2 * N + 2)))))]) (rest := [(.ref q)]) 1 bEa0_d32 (wI hw 297 rfl) (wI hw 298 rfl) (wI hw 173 rfl) (wI hw 299 rfl) (by decide) (cCpO l Z a0 hw n0 hEW b _ (2 * (max m (2 * N + 2))) h0 σ Ab (by simp only [List.length_append, List.length_map, Road.utf_len, List.length_replicate, List.length_drop, List.length_cons, List.length_nil]; omega) (by omega)) (lenOf bCpO_pd rfl) rfl rfl rfl (by decide) (by decide) (ce' := 1) (sl' := 68) rfl rfl (by decide) (by decide) ?_
  rintro _ h_7 σ_8 m_9 ⟨d, rfl, gd, K_10, sd, Ad, ED⟩
  have ne_q_d : q ≠ d := Nat.ne_of_lt (Nat.lt_of_lt_of_le E.lt gd)
  replace E := E.keep K_10
  replace Fc := Fc.keep K_10 nin0
  replace Fv := Fv.keep K_10 nin0
  replace Fn := Fn.keep K_10 nin0
  replace Fy := Fy.keep K_10 nin0
  replace sq := m_9 _ sq
  refine Road.putfield 35 bEa0_d35 (wI hw 59 rfl) Via.refl Fv E (Or.inl (wI hw 60 rfl)) (wI hw 46 rfl) (ty := (.array .byte)) (by decide) rfl rfl sq ?_
  intro h_14 W_12 K_13
  replace Fv := Fv.same W_12
  replace Fc := Fc.other W_12 (Or.inr (slot_ne (Or.inl (wI hw 62 rfl)) (Or.inl (wI hw 60 rfl)) (by decide) (t := .byte) (by decide) (t' := (.array .byte)) (by decide)))
  replace Fn := Fn.other W_12 (Or.inr (slot_ne (Or.inl (wI hw 91 rfl)) (Or.inl (wI hw 60 rfl)) (by decide) (t := .int) (by decide) (t' := (.array .byte)) (by decide)))
  replace Fy := Fy.other W_12 (Or.inr (slot_ne (Or.inl (wI hw 279 rfl)) (Or.inl (wI hw 60 rfl)) (by decide) (t := .boolean) (by decide) (t' := (.array .byte)) (by decide)))
  replace E := E.keep K_13
  replace Ad := Ad.keep K_13 (ninS (Ne.symm ne_q_d) nin0)
  replace ED := ED.keep K_13
  exact Road.ret 38 bEa0_d38 rfl (by decide) (by decide) (fun σ' m => ⟨rfl, (Road.keep_more K_10).trans K_13 (by simp), d, ⟨E, Fc, Fv, Fn, ⟨_, by rw [List.append_assoc] at Ad; exact Ad, by simp only [List.length_append, List.length_map, Road.utf_len, List.length_replicate, List.length_drop, List.length_cons, List.length_nil]; omega⟩, hlt, Fy, ED⟩, gd, m _ sd⟩)
def bUl : Road.Bdy := (⟨"java/lang/StringUTF16", "length", "([B)I"⟩, jdk_52_method_6_code, 1, (some .int), { frames := 0, cells := 0, slots := 0, locals := 0 })
theorem bUl_d0 : decode bUl.bs 0 = .ok (.aload_n 0, 1) := by decide +kernel
theorem bUl_d1 : decode bUl.bs 1 = .ok (.arraylength, 1) := by decide +kernel
theorem bUl_d2 : decode bUl.bs 2 = .ok (.iconst 1, 1) := by decide +kernel
theorem bUl_d3 : decode bUl.bs 3 = .ok (.ishr, 1) := by decide +kernel
theorem bUl_d4 : decode bUl.bs 4 = .ok (.ireturn, 1) := by decide +kernel
theorem bUl_pd : parseMethodDescriptor "([B)I" = some ⟨[(.array .byte)], (some .int)⟩ := by decide +kernel
theorem bUl_pn : plainFor bUl.y = true := plainFor_of_name (show plainName "java/lang/StringUTF16" = true from by first | (simp [plainName, overriddenIn]; done) | decide +kernel)
theorem cUl (l : Launch) (Z : State) (a0 : Array Value) (hw : ∀ d ∈ tables_1, d.before a0 Z = true) (n0 : Nat) (hEW : EW Z a0 consts_1) (b : Addr) (vs : List Value) (n : Nat) (h0 : Heap) (σ : Addr → Prop) (A : Road.Ary Z h0 b .byte vs) (hv : vs.length = 2 * n) :
    Road.Con l Z consts_1 n0 false bUl [] σ #[(.ref b)] h0 (fun v h2 _ => v = some (.int (Nat.toInt32 n)) ∧ h0 = h2) := by
  have hsm := A.small
  rw [hv] at hsm
  refine Road.Con.of bUl_pn hEW #[.val (.ref b)] (fun m => Road.ent (Road.laid1 rfl Road.laid0) (k := 0) rfl rfl) ?_
  intro D hD
  refine Road.aloadN 0 bUl_d0 rfl ?_
  refine Road.alen 1 (Nat.toInt32 (2 * n)) bUl_d1 A (n := (2 * n)) hv rfl ?_
  refine Road.iconst 2 (1 : Int32) bUl_d2 rfl ?_
  refine Road.ishr 3 bUl_d3 ?_
  refine Road.nameI ?_
  intro z_1 hz_1
  obtain rfl : z_1 = (Nat.toInt32 n) := by rw [hz_1]; exact Road.shr1 (by omega)
  exact Road.iretI 4 bUl_d4 rfl (by decide) (by decide) (fun σ' m => ⟨rfl, rfl⟩)
def bCfs : Road.Bdy := (⟨"jdk/internal/util/Preconditions", "checkFromIndexSize", "(IIILjava/util/function/BiFunction;)I"⟩, jdk_41_method_13_code, 4, (some .int), { frames := 0, cells := 0, slots := 0, locals := 0 })
theorem bCfs_d0 : decode bCfs.bs 0 = .ok (.iload_n 2, 1) := by decide +kernel
theorem bCfs_d1 : decode bCfs.bs 1 = .ok (.iload_n 0, 1) := by decide +kernel
theorem bCfs_d2 : decode bCfs.bs 2 = .ok (.ior, 1) := by decide +kernel
theorem bCfs_d3 : decode bCfs.bs 3 = .ok (.iload_n 1, 1) := by decide +kernel
theorem bCfs_d4 : decode bCfs.bs 4 = .ok (.ior, 1) := by decide +kernel
theorem bCfs_d5 : decode bCfs.bs 5 = .ok (.ifCond .lt 10, 3) := by decide +kernel
theorem bCfs_d8 : decode bCfs.bs 8 = .ok (.iload_n 1, 1) := by decide +kernel
theorem bCfs_d9 : decode bCfs.bs 9 = .ok (.iload_n 2, 1) := by decide +kernel
theorem bCfs_d10 : decode bCfs.bs 10 = .ok (.iload_n 0, 1) := by decide +kernel
theorem bCfs_d11 : decode bCfs.bs 11 = .ok (.isub, 1) := by decide +kernel
theorem bCfs_d12 : decode bCfs.bs 12 = .ok (.if_icmp .le 11, 3) := by decide +kernel
theorem bCfs_d15 : decode bCfs.bs 15 = .ok (.aload_n 3, 1) := by decide +kernel
theorem bCfs_d16 : decode bCfs.bs 16 = .ok (.iload_n 0, 1) := by decide +kernel
theorem bCfs_d17 : decode bCfs.bs 17 = .ok (.iload_n 1, 1) := by decide +kernel
theorem bCfs_d18 : decode bCfs.bs 18 = .ok (.iload_n 2, 1) := by decide +kernel
theorem bCfs_d19 : decode bCfs.bs 19 = .ok (.invokestatic 103, 3) := by decide +kernel
theorem bCfs_d22 : decode bCfs.bs 22 = .ok (.athrow, 1) := by decide +kernel
theorem bCfs_d23 : decode bCfs.bs 23 = .ok (.iload_n 0, 1) := by decide +kernel
theorem bCfs_d24 : decode bCfs.bs 24 = .ok (.ireturn, 1) := by decide +kernel
theorem bCfs_pd : parseMethodDescriptor "(IIILjava/util/function/BiFunction;)I" = some ⟨[.int, .int, .int, (.object "java/util/function/BiFunction")], (some .int)⟩ := by decide +kernel
theorem bCfs_pn : plainFor bCfs.y = true := plainFor_of_name (show plainName "jdk/internal/util/Preconditions" = true from by first | (simp [plainName, overriddenIn]; done) | decide +kernel)
theorem cCfs (l : Launch) (Z : State) (a0 : Array Value) (hw : ∀ d ∈ tables_1, d.before a0 Z = true) (n0 : Nat) (hEW : EW Z a0 consts_1) (o k n : Nat) (fm : Value) (h0 : Heap) (σ : Addr → Prop) (hfm : fm.isRef = true) (ho : o + k ≤ n) (hn : n < 2147483648) :
    Road.Con l Z consts_1 n0 false bCfs [] σ #[(.int (Nat.toInt32 o)), (.int (Nat.toInt32 k)), (.int (Nat.toInt32 n)), fm] h0 (fun v h2 _ => v = some (.int (Nat.toInt32 o)) ∧ h0 = h2) := by
  obtain ⟨e1, b1⟩ := Road.or_nn (i := n) (j := o) (by omega) (by omega)
  obtain ⟨e2, b2⟩ := Road.or_nn (i := n ||| o) (j := k) (by omega) (by omega)
  refine Road.Con.of bCfs_pn hEW #[.val (.int (Nat.toInt32 o)), .val (.int (Nat.toInt32 k)), .val (.int (Nat.toInt32 n)), .val fm] (fun m => Road.ent (Road.laid1 rfl (Road.laid1 rfl (Road.laid1 rfl (Road.laid1 (XT.cat1 hfm) Road.laid0)))) (k := 0) rfl rfl) ?_
  intro D hD
  refine Road.iloadN 0 bCfs_d0 rfl ?_
  refine Road.iloadN 1 bCfs_d1 rfl ?_
  refine Road.ior 2 bCfs_d2 ?_
  refine Road.iloadN 3 bCfs_d3 rfl ?_
  refine Road.ior 4 bCfs_d4 ?_
  refine Road.nameI ?_
  intro z_1 hz_1
  obtain rfl : z_1 = (Nat.toInt32 (n ||| o ||| k)) := by rw [hz_1]; rw [e1, e2]
  refine Road.if_lt 5 15 bCfs_d5 rfl (fun q => absurd q (Road.ix_of (Road.n32 b2)).1) (fun hc5 => ?_)
  refine Road.iloadN 8 bCfs_d8 rfl ?_
  refine Road.iloadN 9 bCfs_d9 rfl ?_
  refine Road.iloadN 10 bCfs_d10 rfl ?_
  refine Road.isub 11 bCfs_d11 ?_
  refine Road.nameI ?_
  intro z_2 hz_2
  obtain rfl : z_2 = (Nat.toInt32 (n - o)) := by rw [hz_2]; exact Road.sub32n (by omega)
  refine Road.icmp_le 12 23 bCfs_d12 rfl (fun hc12 => ?_) (fun q => absurd q (by rw [Road.lt32 (by omega) (by omega)]; omega))
  refine Road.iloadN 23 bCfs_d23 rfl ?_
  exact Road.iretI 24 bCfs_d24 rfl (by decide) (by decide) (fun σ' m => ⟨rfl, rfl⟩)
def bCbo : Road.Bdy := (⟨"java/lang/String", "checkBoundsOffCount", "(III)I"⟩, jdk_42_method_157_code, 3, (some .int), { frames := 1, cells := 0, slots := 0, locals := 15 })
theorem bCbo_d0 : decode bCbo.bs 0 = .ok (.iload_n 0, 1) := by decide +kernel
theorem bCbo_d1 : decode bCbo.bs 1 = .ok (.iload_n 1, 1) := by decide +kernel
theorem bCbo_d2 : decode bCbo.bs 2 = .ok (.iload_n 2, 1) := by decide +kernel
theorem bCbo_d3 : decode bCbo.bs 3 = .ok (.getstatic 1053, 3) := by decide +kernel
theorem bCbo_d6 : decode bCbo.bs 6 = .ok (.invokestatic 1065, 3) := by decide +kernel
theorem bCbo_d9 : decode bCbo.bs 9 = .ok (.ireturn, 1) := by decide +kernel
theorem bCbo_pd : parseMethodDescriptor "(III)I" = some ⟨[.int, .int, .int], (some .int)⟩ := by decide +kernel
theorem bCbo_pn : plainFor bCbo.y = true := plainFor_of_name (show plainName "java/lang/String" = true from by first | (simp [plainName, overriddenIn]; done) | decide +kernel)
theorem cCbo (l : Launch) (Z : State) (a0 : Array Value) (hw : ∀ d ∈ tables_1, d.before a0 Z = true) (n0 : Nat) (hEW : EW Z a0 consts_1) (o k n : Nat) (h0 : Heap) (σ : Addr → Prop) (ho : o + k ≤ n) (hn : n < 2147483648) (fm : Value) (hfm : fm.isRef = true) (Hf : Sta Z Z.heap "jdk/internal/util/Preconditions" "SIOOBE_FORMATTER" "Ljava/util/function/BiFunction;" fm) :
    Road.Con l Z consts_1 n0 false bCbo [] σ #[(.int (Nat.toInt32 o)), (.int (Nat.toInt32 k)), (.int (Nat.toInt32 n))] h0 (fun v h2 _ => v = some (.int (Nat.toInt32 o)) ∧ h0 = h2) := by
  refine Road.Con.of bCbo_pn hEW #[.val (.int (Nat.toInt32 o)), .val (.int (Nat.toInt32 k)), .val (.int (Nat.toInt32 n))] (fun m => Road.ent (Road.laid1 rfl (Road.laid1 rfl (Road.laid1 rfl Road.laid0))) (k := 0) rfl rfl) ?_
  intro D hD
  refine Road.iloadN 0 bCbo_d0 rfl ?_
  refine Road.iloadN 1 bCbo_d1 rfl ?_
  refine Road.iloadN 2 bCbo_d2 rfl ?_
  refine Road.getstatic 3 bCbo_d3 (wI hw 213 rfl) Via.refl Hf ?_
  refine Road.callS (B' := bCfs) 6 (argsL := [(.int (Nat.toInt32 o)), (.int (Nat.toInt32 k)), (.int (Nat.toInt32 n)), fm]) (rest := []) 0 bCbo_d6 (wI hw 267 rfl) (wI hw 268 rfl) (wI hw 214 rfl) (wI hw 269 rfl) (by decide) (cCfs l Z a0 hw n0 hEW o k n fm h0 σ hfm ho hn) (lenOf bCfs_pd rfl) rfl rfl rfl (by decide) (by decide) (ce' := 0) (sl' := 0) rfl rfl (by decide) (by decide) ?_
  rintro _ h_1 σ_2 m_3 ⟨rfl, rfl⟩
  refine Road.Go.weaken (σ' := σ) m_3 (Nat.le_refl _) (Nat.le_refl _) ?_
  exact Road.iretI 9 bCbo_d9 rfl (by decide) (by decide) (fun σ' m => ⟨rfl, rfl⟩)
def bUcb : Road.Bdy := (⟨"java/lang/StringUTF16", "checkBoundsOffCount", "(II[B)V"⟩, jdk_52_method_94_code, 3, none, { frames := 2, cells := 0, slots := 0, locals := 29 })
theorem bUcb_d0 : decode bUcb.bs 0 = .ok (.iload_n 0, 1) := by decide +kernel
theorem bUcb_d1 : decode bUcb.bs 1 = .ok (.iload_n 1, 1) := by decide +kernel
theorem bUcb_d2 : decode bUcb.bs 2 = .ok (.aload_n 2, 1) := by decide +kernel
theorem bUcb_d3 : decode bUcb.bs 3 = .ok (.invokestatic 48, 3) := by decide +kernel
theorem bUcb_d6 : decode bUcb.bs 6 = .ok (.invokestatic 419, 3) := by decide +kernel
theorem bUcb_d9 : decode bUcb.bs 9 = .ok (.pop, 1) := by decide +kernel
theorem bUcb_d10 : decode bUcb.bs 10 = .ok (.return_, 1) := by decide +kernel
theorem bUcb_pd : parseMethodDescriptor "(II[B)V" = some ⟨[.int, .int, (.array .byte)], none⟩ := by decide +kernel
theorem bUcb_pn : plainFor bUcb.y = true := plainFor_of_name (show plainName "java/lang/StringUTF16" = true from by first | (simp [plainName, overriddenIn]; done) | decide +kernel)
theorem cUcb (l : Launch) (Z : State) (a0 : Array Value) (hw : ∀ d ∈ tables_1, d.before a0 Z = true) (n0 : Nat) (hEW : EW Z a0 consts_1) (o k n : Nat) (b : Addr) (vs : List Value) (h0 : Heap) (σ : Addr → Prop) (A : Road.Ary Z h0 b .byte vs) (hv : vs.length = 2 * n) (ho : o + k ≤ n) (hn : n < 2147483648) (fm : Value) (hfm : fm.isRef = true) (Hf : Sta Z Z.heap "jdk/internal/util/Preconditions" "SIOOBE_FORMATTER" "Ljava/util/function/BiFunction;" fm) :
    Road.Con l Z consts_1 n0 false bUcb [] σ #[(.int (Nat.toInt32 o)), (.int (Nat.toInt32 k)), (.ref b)] h0 (fun v h2 _ => v = none ∧ h0 = h2) := by
  refine Road.Con.of bUcb_pn hEW #[.val (.int (Nat.toInt32 o)), .val (.int (Nat.toInt32 k)), .val (.ref b)] (fun m => Road.ent (Road.laid1 rfl (Road.laid1 rfl (Road.laid1 rfl Road.laid0))) (k := 0) rfl rfl) ?_
  intro D hD
  refine Road.iloadN 0 bUcb_d0 rfl ?_
  refine Road.iloadN 1 bUcb_d1 rfl ?_
  refine Road.aloadN 2 bUcb_d2 rfl ?_
  refine Road.callS (B' := bUl) 3 (argsL := [(.ref b)]) (rest := [(.int (Nat.toInt32 k)), (.int (Nat.toInt32 o))]) 2 bUcb_d3 (wI hw 261 rfl) (wI hw 262 rfl) (wI hw 22 rfl) (wI hw 263 rfl) (by decide) (cUl l Z a0 hw n0 hEW b vs n h0 σ A hv) (lenOf bUl_pd rfl) rfl rfl rfl (by decide) (by decide) (ce' := 0) (sl' := 0) rfl rfl (by decide) (by decide) ?_
  rintro _ h_1 σ_2 m_3 ⟨rfl, rfl⟩
  refine Road.Go.weaken (σ' := σ) m_3 (Nat.le_refl _) (Nat.le_refl _) ?_
  refine Road.callS (B' := bCbo) 6 (argsL := [(.int (Nat.toInt32 o)), (.int (Nat.toInt32 k)), (.int (Nat.toInt32 n))]) (rest := []) 0 bUcb_d6 (wI hw 264 rfl) (wI hw 265 rfl) (wI hw 7 rfl) (wI hw 266 rfl) (by decide) (cCbo l Z a0 hw n0 hEW o k n h0 σ ho hn fm hfm Hf) (lenOf bCbo_pd rfl) rfl rfl rfl (by decide) (by decide) (ce' := 0) (sl' := 0) rfl rfl (by decide) (by decide) ?_
  rintro _ h_5 σ_6 m_7 ⟨rfl, rfl⟩
  refine Road.Go.weaken (σ' := σ) m_7 (Nat.le_refl _) (Nat.le_refl _) ?_
  refine Road.pop 9 bUcb_d9 ?_
  exact Road.ret 10 bUcb_d10 rfl (by decide) (by decide) (fun σ' m => ⟨rfl, rfl⟩)
def bUin : Road.Bdy := (⟨"java/lang/StringUTF16", "inflate", "([BI[BII)V"⟩, jdk_52_method_86_code, 6, none, { frames := 3, cells := 0, slots := 0, locals := 43 })
theorem bUin_d0 : decode bUin.bs 0 = .ok (.iload_n 3, 1) := by decide +kernel
theorem bUin_d1 : decode bUin.bs 1 = .ok (.iload 4, 2) := by decide +kernel
theorem bUin_d3 : decode bUin.bs 3 = .ok (.aload_n 2, 1) := by decide +kernel
theorem bUin_d4 : decode bUin.bs 4 = .ok (.invokestatic 173, 3) := by decide +kernel
theorem bUin_d7 : decode bUin.bs 7 = .ok (.iconst 0, 1) := by decide +kernel
theorem bUin_d8 : decode bUin.bs 8 = .ok (.istore 5, 2) := by decide +kernel
theorem bUin_d10 : decode bUin.bs 10 = .ok (.iload 5, 2) := by decide +kernel
theorem bUin_d12 : decode bUin.bs 12 = .ok (.iload 4, 2) := by decide +kernel
theorem bUin_d14 : decode bUin.bs 14 = .ok (.if_icmp .ge 27, 3) := by decide +kernel
theorem bUin_d17 : decode bUin.bs 17 = .ok (.aload_n 2, 1) := by decide +kernel
theorem bUin_d18 : decode bUin.bs 18 = .ok (.iload_n 3, 1) := by decide +kernel
theorem bUin_d19 : decode bUin.bs 19 = .ok (.iinc 3 1, 3) := by decide +kernel
theorem bUin_d22 : decode bUin.bs 22 = .ok (.aload_n 0, 1) := by decide +kernel
theorem bUin_d23 : decode bUin.bs 23 = .ok (.iload_n 1, 1) := by decide +kernel
theorem bUin_d24 : decode bUin.bs 24 = .ok (.iinc 1 1, 3) := by decide +kernel
theorem bUin_d27 : decode bUin.bs 27 = .ok (.baload, 1) := by decide +kernel
theorem bUin_d28 : decode bUin.bs 28 = .ok (.sipush 255, 3) := by decide +kernel
theorem bUin_d31 : decode bUin.bs 31 = .ok (.iand, 1) := by decide +kernel
theorem bUin_d32 : decode bUin.bs 32 = .ok (.invokestatic 111, 3) := by decide +kernel
theorem bUin_d35 : decode bUin.bs 35 = .ok (.iinc 5 1, 3) := by decide +kernel
theorem bUin_d38 : decode bUin.bs 38 = .ok (.goto (-28), 3) := by decide +kernel
theorem bUin_d41 : decode bUin.bs 41 = .ok (.return_, 1) := by decide +kernel
theorem bUin_pd : parseMethodDescriptor "([BI[BII)V" = some ⟨[(.array .byte), .int, (.array .byte), .int, .int], none⟩ := by decide +kernel
theorem bUin_pn : plainFor bUin.y = true := plainFor_of_name (show plainName "java/lang/StringUTF16" = true from by first | (simp [plainName, overriddenIn]; done) | decide +kernel)
theorem cUin (l : Launch) (Z : State) (a0 : Array Value) (hw : ∀ d ∈ tables_1, d.before a0 Z = true) (n0 : Nat) (hEW : EW Z a0 consts_1) (a d : Addr) (pre ds : List Int32) (ra r : List Value) (n : Nat) (h0 : Heap) (σ : Addr → Prop) (A : Road.Ary Z h0 a .byte (ds.map Road.byt ++ ra)) (D_ : Road.Ary Z h0 d .byte (Road.utf pre ++ r)) (hlat : ∀ c ∈ ds, 0 ≤ c.toInt ∧ c.toInt < 256) (hr : 2 * pre.length + r.length = 2 * n) (hl : pre.length + ds.length ≤ n) (nad : a ≠ d) (sd : σ d) (fm : Value) (hfm : fm.isRef = true) (Hf : Sta Z Z.heap "jdk/internal/util/Preconditions" "SIOOBE_FORMATTER" "Ljava/util/function/BiFunction;" fm) (H0 : Sta Z Z.heap "java/lang/StringUTF16" "$assertionsDisabled" "Z" (.int 1)) (H1 : Sta Z Z.heap "java/lang/StringUTF16" "HI_BYTE_SHIFT" "I" (.int 0)) (H2 : Sta Z Z.heap "java/lang/StringUTF16" "LO_BYTE_SHIFT" "I" (.int 8)) :
    Road.Con l Z consts_1 n0 false bUin [] σ #[(.ref a), (.int (0 : Int32)), (.ref d), (.int (Nat.toInt32 pre.length)), (.int (Nat.toInt32 ds.length))] h0 (fun v h2 _ => v = none ∧ Keep h0 h2 [d] ∧ Road.Ary Z h2 d .byte (Road.utf (pre ++ ds) ++ r.drop (2 * ds.length))) := by
  have hsm := D_.small
  simp only [List.length_append, Road.utf_len] at hsm
  refine Road.Con.of bUin_pn hEW #[.val (.ref a), .val (.int (0 : Int32)), .val (.ref d), .val (.int (Nat.toInt32 pre.length)), .val (.int (Nat.toInt32 ds.length)), .unset] (fun m => Road.ent (Road.laid1 rfl (Road.laid1 rfl (Road.laid1 rfl (Road.laid1 rfl (Road.laid1 rfl Road.laid0))))) (k := 1) rfl rfl) ?_
  intro D hD
  refine Road.iloadN 0 bUin_d0 rfl ?_
  refine Road.iload 1 bUin_d1 rfl ?_
  refine Road.aloadN 3 bUin_d3 rfl ?_
  refine Road.callS (B' := bUcb) 4 (argsL := [(.int (Nat.toInt32 pre.length)), (.int (Nat.toInt32 ds.length)), (.ref d)]) (rest := []) 0 bUin_d4 (wI hw 258 rfl) (wI hw 259 rfl) (wI hw 22 rfl) (wI hw 260 rfl) (by decide) (cUcb l Z a0 hw n0 hEW pre.length ds.length n d _ h0 σ D_ (by simp only [List.length_append, List.length_map, Road.utf_len, List.length_replicate, List.length_drop, List.length_cons, List.length_nil]; omega) hl (by omega) fm hfm Hf) (lenOf bUcb_pd rfl) rfl rfl rfl (by decide) (by decide) (ce' := 0) (sl' := 0) rfl rfl (by decide) (by decide) ?_
  rintro _ h_1 σ_2 m_3 ⟨rfl, rfl⟩
  refine Road.Go.weaken (σ' := σ) m_3 (Nat.le_refl _) (Nat.le_refl _) ?_
  refine Road.iconst 7 (0 : Int32) bUin_d7 rfl ?_
  refine Road.istore 8 #[.val (.ref a), .val (.int (0 : Int32)), .val (.ref d), .val (.int (Nat.toInt32 pre.length)), .val (.int (Nat.toInt32 ds.length)), .val (.int (0 : Int32))] bUin_d8 rfl ?_
  have loop : ∀ j k, k + j = ds.length → ∀ (h : Heap), Keep h0 h [d] → Road.Ary Z h d .byte (Road.utf (pre ++ ds.take k) ++ r.drop (2 * k)) → Road.Go l Z a0 consts_1 n0 false bUin D (fun v h2 _ => v = none ∧ Keep h0 h2 [d] ∧ Road.Ary Z h2 d .byte (Road.utf (pre ++ ds) ++ r.drop (2 * ds.length))) h σ 0 0 10 #[.val (.ref a), .val (.int (Nat.toInt32 k)), .val (.ref d), .val (.int (Nat.toInt32 (pre.length + k))), .val (.int (Nat.toInt32 ds.length)), .val (.int (Nat.toInt32 k))] [] := by
    intro j
    induction j with
    | zero =>
      intro k hk h K1 A1
      have hk' : k = ds.length := by omega
      subst hk'
      refine Road.iload 10 bUin_d10 rfl ?_
      refine Road.iload 12 bUin_d12 rfl ?_
      refine Road.icmp_ge 14 41 bUin_d14 rfl (fun hc14 => ?_) (fun q => absurd q Int32.lt_irrefl)
      exact Road.ret 41 bUin_d41 rfl (by decide) (by decide) (fun σ' m => ⟨rfl, K1, by rw [List.take_length] at A1; exact A1⟩)
    | succ j ih =>
      intro k hk h K1 A1
      have hk' : k < ds.length := by omega
      have A2 := A.keep K1 (ninS nad nin0)
      have hc := hlat _ (List.getElem_mem hk')
      refine Road.iload 10 bUin_d10 rfl ?_
      refine Road.iload 12 bUin_d12 rfl ?_
      refine Road.icmp_ge 14 41 bUin_d14 rfl (fun q => absurd q (by rw [Decidable.not_not, Road.lt32 (by omega) (by omega)]; omega)) (fun hc14 => ?_)
      refine Road.aloadN 17 bUin_d17 rfl ?_
      refine Road.iloadN 18 bUin_d18 rfl ?_
      refine Road.iinc 19 (1) #[.val (.ref a), .val (.int (Nat.toInt32 k)), .val (.ref d), .val (.int ((Nat.toInt32 (pre.length + k)) + 1)), .val (.int (Nat.toInt32 ds.length)), .val (.int (Nat.toInt32 k))] bUin_d19 rfl rfl rfl ?_
      refine Road.aloadN 22 bUin_d22 rfl ?_
      refine Road.iloadN 23 bUin_d23 rfl ?_
      refine Road.iinc 24 (1) #[.val (.ref a), .val (.int ((Nat.toInt32 k) + 1)), .val (.ref d), .val (.int ((Nat.toInt32 (pre.length + k)) + 1)), .val (.int (Nat.toInt32 ds.length)), .val (.int (Nat.toInt32 k))] bUin_d24 rfl rfl rfl ?_
      refine Road.baload 27 k bUin_d27 A2 (Road.n32 (by omega)) (by rw [List.getElem?_append_left (by rw [List.length_map]; exact hk'), List.getElem?_map, List.getElem?_eq_getElem hk']; rfl) ?_
      refine Road.sipush 28 (255 : Int32) bUin_d28 rfl ?_
      refine Road.iand 31 bUin_d31 ?_
      refine Road.nameI ?_
      intro z_5 hz_5
      obtain rfl : z_5 = ds[k] := by rw [hz_5]; exact Road.lat_and hc
      refine Road.callS (B' := bPch) 32 (argsL := [(.ref d), (.int (Nat.toInt32 (pre.length + k))), (.int ds[k])]) (rest := []) 0 bUin_d32 (wI hw 237 rfl) (wI hw 238 rfl) (wI hw 22 rfl) (wI hw 239 rfl) (by decide) (cPch l Z a0 hw n0 hEW d _ (pre.length + k) ds[k] h σ A1 (by simp only [List.length_append, List.length_map, Road.utf_len, List.length_replicate, List.length_drop, List.length_cons, List.length_nil]; simp only [List.length_take]; omega) sd H0 H1 H2) (lenOf bPch_pd rfl) rfl rfl rfl (by decide) (by decide) (ce' := 0) (sl' := 0) rfl rfl (by decide) (by decide) ?_
      rintro _ h_6 σ_7 m_8 ⟨rfl, K_9, A3⟩
      replace sd := m_8 _ sd
      refine Road.iinc 35 (1) #[.val (.ref a), .val (.int ((Nat.toInt32 k) + 1)), .val (.ref d), .val (.int ((Nat.toInt32 (pre.length + k)) + 1)), .val (.int (Nat.toInt32 ds.length)), .val (.int ((Nat.toInt32 k) + 1))] bUin_d35 rfl rfl rfl ?_
      refine Road.goto 38 10 bUin_d38 rfl ?_
      have hpl : (pre ++ ds.take k).length = pre.length + k := by rw [List.length_append, List.length_take, Nat.min_eq_left (by omega)]
      rw [← hpl, Road.utf_put_chr _ _ _ (by rw [List.length_drop]; omega), List.append_assoc, ← List.take_succ_eq_append_getElem hk', List.drop_drop] at A3
      have := ih (k + 1) (by omega) h_6 (K1.trans K_9 (by simp)) (by rw [show 2 * (k + 1) = 2 * k + 2 from by omega]; exact A3)
      rw [show pre.length + (k + 1) = pre.length + k + 1 from by omega, ← Road.succ32, ← Road.succ32] at this
      exact Road.Go.weaken (σ' := σ) m_8 (Nat.le_refl _) (Nat.le_refl _) this
  exact loop ds.length 0 (by omega) h0 (Keep.refl _ _) (by simpa using D_)
def bLin : Road.Bdy := (⟨"java/lang/StringLatin1", "inflate", "([BI[BII)V"⟩, jdk_43_method_50_code, 5, none, { frames := 4, cells := 0, slots := 0, locals := 60 })
theorem bLin_d0 : decode bLin.bs 0 = .ok (.aload_n 0, 1) := by decide +kernel
theorem bLin_d1 : decode bLin.bs 1 = .ok (.iload_n 1, 1) := by decide +kernel
theorem bLin_d2 : decode bLin.bs 2 = .ok (.aload_n 2, 1) := by decide +kernel
theorem bLin_d3 : decode bLin.bs 3 = .ok (.iload_n 3, 1) := by decide +kernel
theorem bLin_d4 : decode bLin.bs 4 = .ok (.iload 4, 2) := by decide +kernel
theorem bLin_d6 : decode bLin.bs 6 = .ok (.invokestatic 240, 3) := by decide +kernel
theorem bLin_d9 : decode bLin.bs 9 = .ok (.return_, 1) := by decide +kernel
theorem bLin_pd : parseMethodDescriptor "([BI[BII)V" = some ⟨[(.array .byte), .int, (.array .byte), .int, .int], none⟩ := by decide +kernel
theorem bLin_pn : plainFor bLin.y = true := plainFor_of_name (show plainName "java/lang/StringLatin1" = true from by first | (simp [plainName, overriddenIn]; done) | decide +kernel)
theorem cLin (l : Launch) (Z : State) (a0 : Array Value) (hw : ∀ d ∈ tables_1, d.before a0 Z = true) (n0 : Nat) (hEW : EW Z a0 consts_1) (a d : Addr) (pre ds : List Int32) (ra r : List Value) (n : Nat) (h0 : Heap) (σ : Addr → Prop) (A : Road.Ary Z h0 a .byte (ds.map Road.byt ++ ra)) (D_ : Road.Ary Z h0 d .byte (Road.utf pre ++ r)) (hlat : ∀ c ∈ ds, 0 ≤ c.toInt ∧ c.toInt < 256) (hr : 2 * pre.length + r.length = 2 * n) (hl : pre.length + ds.length ≤ n) (nad : a ≠ d) (sd : σ d) (fm : Value) (hfm : fm.isRef = true) (Hf : Sta Z Z.heap "jdk/internal/util/Preconditions" "SIOOBE_FORMATTER" "Ljava/util/function/BiFunction;" fm) (H0 : Sta Z Z.heap "java/lang/StringUTF16" "$assertionsDisabled" "Z" (.int 1)) (H1 : Sta Z Z.heap "java/lang/StringUTF16" "HI_BYTE_SHIFT" "I" (.int 0)) (H2 : Sta Z Z.heap "java/lang/StringUTF16" "LO_BYTE_SHIFT" "I" (.int 8)) :
    Road.Con l Z consts_1 n0 false bLin [] σ #[(.ref a), (.int (0 : Int32)), (.ref d), (.int (Nat.toInt32 pre.length)), (.int (Nat.toInt32 ds.length))] h0 (fun v h2 _ => v = none ∧ Keep h0 h2 [d] ∧ Road.Ary Z h2 d .byte (Road.utf (pre ++ ds) ++ r.drop (2 * ds.length))) := by
  refine Road.Con.of bLin_pn hEW #[.val (.ref a), .val (.int (0 : Int32)), .val (.ref d), .val (.int (Nat.toInt32 pre.length)), .val (.int (Nat.toInt32 ds.length))] (fun m => Road.ent (Road.laid1 rfl (Road.laid1 rfl (Road.laid1 rfl (Road.laid1 rfl (Road.laid1 rfl Road.laid0))))) (k := 0) rfl rfl) ?_
  intro D hD
  refine Road.aloadN 0 bLin_d0 rfl ?_
  refine Road.iloadN 1 bLin_d1 rfl ?_
  refine Road.aloadN 2 bLin_d2 rfl ?_
  refine Road.iloadN 3 bLin_d3 rfl ?_
  refine Road.iload 4 bLin_d4 rfl ?_
  refine Road.callS (B' := bUin) 6 (argsL := [(.ref a), (.int (0 : Int32)), (.ref d), (.int (Nat.toInt32 pre.length)), (.int (Nat.toInt32 ds.length))]) (rest := []) 0 bLin_d6 (wI hw 255 rfl) (wI hw 256 rfl) (wI hw 22 rfl) (wI hw 257 rfl) (by decide) (cUin l Z a0 hw n0 hEW a d pre ds ra r n h0 σ A D_ hlat hr hl nad sd fm hfm Hf H0 H1 H2) (lenOf bUin_pd rfl) rfl rfl rfl (by decide) (by decide) (ce' := 0) (sl' := 0) rfl rfl (by decide) (by decide) ?_
  rintro _ h_1 σ_2 m_3 ⟨rfl, K_4, A2⟩
  exact Road.ret 9 bLin_d9 rfl (by decide) (by decide) (fun σ' m => ⟨rfl, K_4, A2⟩)
def bNb2 : Road.Bdy := (⟨"java/lang/StringUTF16", "newBytesFor", "(I)[B"⟩, jdk_52_method_2_code, 1, (some (.array .byte)), { frames := 1, cells := 1, slots := 68, locals := 12 })
theorem bNb2_pd : parseMethodDescriptor "(I)[B" = some ⟨[.int], (some (.array .byte))⟩ := by decide +kernel
theorem bNb2_pn : plainFor bNb2.y = true := plainFor_of_name (show plainName "java/lang/StringUTF16" = true from by first | (simp [plainName, overriddenIn]; done) | decide +kernel)
theorem cNb2 (l : Launch) (Z : State) (a0 : Array Value) (hw : ∀ d ∈ tables_1, d.before a0 Z = true) (n0 : Nat) (hEW : EW Z a0 consts_1) (n : Nat) (h0 : Heap) (σ : Addr → Prop) (hn : n ≤ 34) :
    Road.Con l Z consts_1 n0 false bNb2 [] σ #[(.int (Nat.toInt32 n))] h0 (fun v h2 s2 => ∃ d, v = some (.ref d) ∧ h0.size ≤ d ∧ Keep h0 h2 [] ∧ s2 d ∧ Road.Ary Z h2 d .byte (List.replicate (2 * n) (.int 0)) ∧ Exa Z h2 d "[B") := by
  refine Road.Con.of bNb2_pn hEW #[.val (.int (Nat.toInt32 n))] (fun m => Road.ent (Road.laid1 rfl Road.laid0) (k := 0) rfl rfl) ?_
  intro D hD
  refine Road.iloadN 0 bNbf_d0 rfl ?_
  refine Road.callS (B' := bNbl) 1 (argsL := [(.int (Nat.toInt32 n))]) (rest := []) 0 bNbf_d1 (wI hw 233 rfl) (wI hw 234 rfl) (wI hw 22 rfl) (wI hw 235 rfl) (by decide) (cNbl l Z a0 hw n0 hEW n h0 σ (by omega)) (lenOf bNbl_pd rfl) rfl rfl rfl (by decide) (by decide) (ce' := 0) (sl' := 0) rfl rfl (by decide) (by decide) ?_
  rintro _ h_1 σ_2 m_3 ⟨rfl, rfl⟩
  refine Road.Go.weaken (σ' := σ) m_3 (Nat.le_refl _) (Nat.le_refl _) ?_
  refine Road.newarrayE 4 .byte (2 * n) 68 "[B" rfl bNbf_d4 rfl (wI hw 24 rfl) (Road.n32 (by omega)) (by omega) (by decide) (ce' := 1) (sl' := 68) rfl rfl (by decide) (by decide) ?_
  intro d h_5 σ_6 g_7 K_8 lt_9 m_10 s_11 Ad ED
  exact Road.aret 6 bNbf_d6 (t := (.array .byte)) rfl rfl rfl (by decide) (by decide) (fun σ' m => ⟨d, rfl, Nat.le_of_eq g_7.symm, K_8, m _ s_11, Ad, ED⟩)
def bAin : Road.Bdy := (⟨"java/lang/AbstractStringBuilder", "inflate", "()V"⟩, jdk_68_method_11_code, 2, none, { frames := 5, cells := 1, slots := 68, locals := 76 })
theorem bAin_d0 : decode bAin.bs 0 = .ok (.aload_n 0, 1) := by decide +kernel
theorem bAin_d1 : decode bAin.bs 1 = .ok (.invokevirtual 83, 3) := by decide +kernel
theorem bAin_d4 : decode bAin.bs 4 = .ok (.ifCond .ne 4, 3) := by decide +kernel
theorem bAin_d7 : decode bAin.bs 7 = .ok (.return_, 1) := by decide +kernel
theorem bAin_d8 : decode bAin.bs 8 = .ok (.aload_n 0, 1) := by decide +kernel
theorem bAin_d9 : decode bAin.bs 9 = .ok (.getfield 15, 3) := by decide +kernel
theorem bAin_d12 : decode bAin.bs 12 = .ok (.arraylength, 1) := by decide +kernel
theorem bAin_d13 : decode bAin.bs 13 = .ok (.invokestatic 26, 3) := by decide +kernel
theorem bAin_d16 : decode bAin.bs 16 = .ok (.astore_n 1, 1) := by decide +kernel
theorem bAin_d17 : decode bAin.bs 17 = .ok (.aload_n 0, 1) := by decide +kernel
theorem bAin_d18 : decode bAin.bs 18 = .ok (.getfield 15, 3) := by decide +kernel
theorem bAin_d21 : decode bAin.bs 21 = .ok (.iconst 0, 1) := by decide +kernel
theorem bAin_d22 : decode bAin.bs 22 = .ok (.aload_n 1, 1) := by decide +kernel
theorem bAin_d23 : decode bAin.bs 23 = .ok (.iconst 0, 1) := by decide +kernel
theorem bAin_d24 : decode bAin.bs 24 = .ok (.aload_n 0, 1) := by decide +kernel
theorem bAin_d25 : decode bAin.bs 25 = .ok (.getfield 79, 3) := by decide +kernel
theorem bAin_d28 : decode bAin.bs 28 = .ok (.invokestatic 125, 3) := by decide +kernel
theorem bAin_d31 : decode bAin.bs 31 = .ok (.aload_n 0, 1) := by decide +kernel
theorem bAin_d32 : decode bAin.bs 32 = .ok (.aload_n 1, 1) := by decide +kernel
theorem bAin_d33 : decode bAin.bs 33 = .ok (.putfield 15, 3) := by decide +kernel
theorem bAin_d36 : decode bAin.bs 36 = .ok (.aload_n 0, 1) := by decide +kernel
theorem bAin_d37 : decode bAin.bs 37 = .ok (.iconst 1, 1) := by decide +kernel
theorem bAin_d38 : decode bAin.bs 38 = .ok (.putfield 22, 3) := by decide +kernel
theorem bAin_d41 : decode bAin.bs 41 = .ok (.return_, 1) := by decide +kernel
theorem bAin_pd : parseMethodDescriptor "()V" = some ⟨[], none⟩ := by decide +kernel
theorem bAin_pn : plainFor bAin.y = true := plainFor_of_name (show plainName "java/lang/AbstractStringBuilder" = true from by first | (simp [plainName, overriddenIn]; done) | decide +kernel)
theorem cAin (l : Launch) (Z : State) (a0 : Array Value) (hw : ∀ d ∈ tables_1, d.before a0 Z = true) (n0 : Nat) (hEW : EW Z a0 consts_1) (q b : Addr) (cs : List Int32) (N : Nat) (h0 : Heap) (σ : Addr → Prop) (S : Road.Sb0 Z h0 q b cs N) (hcap : N ≤ 34) (sq : σ q) (cp : Int32) (Hc : Sta Z Z.heap Road.SN "COMPACT_STRINGS" "Z" (.int cp)) (hcp : ¬ cp = 0) (fm : Value) (hfm : fm.isRef = true) (Hf : Sta Z Z.heap "jdk/internal/util/Preconditions" "SIOOBE_FORMATTER" "Ljava/util/function/BiFunction;" fm) (H0 : Sta Z Z.heap "java/lang/StringUTF16" "$assertionsDisabled" "Z" (.int 1)) (H1 : Sta Z Z.heap "java/lang/StringUTF16" "HI_BYTE_SHIFT" "I" (.int 0)) (H2 : Sta Z Z.heap "java/lang/StringUTF16" "LO_BYTE_SHIFT" "I" (.int 8)) :
    Road.Con l Z consts_1 n0 false bAin [] σ #[(.ref q)] h0 (fun v h2 s2 => v = none ∧ Keep h0 h2 [q] ∧ ∃ d, Road.Sb1 Z h2 q d cs N ∧ h0.size ≤ d ∧ s2 d) := by
  have hN := S.small
  have hle := S.le
  have S0 := S
  obtain ⟨E, Fc, Fv, Fn, ⟨r, Ab, hr⟩, hlt, Fy, EB⟩ := S
  have nqb : q ≠ b := by obtain ⟨c, Ar, -⟩ := Ab; exact ne_arr E (wI hw 46 rfl) Ar
  refine Road.Con.of bAin_pn hEW #[.val (.ref q), .unset] (fun m => Road.ent (Road.laid1 rfl Road.laid0) (k := 1) rfl rfl) ?_
  intro D hD
  refine Road.aloadN 0 bAin_d0 rfl ?_
  refine Road.callV (B' := bAL0) (a := q) 1 (argsL := []) (rest := []) "java/lang/StringBuilder" 0 bAin_d1 (wI hw 131 rfl) (wI hw 132 rfl) (fun vm hz => Road.notFace_sib (args := #[]) (mv (s := D.s.setVm vm) hz (wI hw 95 rfl)) rfl) (wI hw 134 rfl) (wI hw 133 rfl) (wI hw 55 rfl) (wI hw 135 rfl) (by decide) E (cAL0 l Z a0 hw n0 hEW q h0 σ Fc cp Hc hcp) (lenOf bAL0_pd rfl) rfl rfl rfl (by decide) (by decide) (ce' := 0) (sl' := 0) rfl rfl (by decide) (by decide) ?_
  rintro _ h_1 σ_2 m_3 ⟨rfl, rfl⟩
  refine Road.Go.weaken (σ' := σ) m_3 (Nat.le_refl _) (Nat.le_refl _) ?_
  refine Road.if_ne 4 8 bAin_d4 rfl (fun hc4 => ?_) (fun q => absurd q (by decide))
  refine Road.aloadN 8 bAin_d8 rfl ?_
  refine Road.getfield 9 bAin_d9 (wI hw 59 rfl) Via.refl Fv ?_
  refine Road.alen 12 (Nat.toInt32 N) bAin_d12 Ab (n := N) (by rw [List.length_append, List.length_map]; exact hr) rfl ?_
  refine Road.callS (B' := bNb2) 13 (argsL := [(.int (Nat.toInt32 N))]) (rest := []) 0 bAin_d13 (wI hw 251 rfl) (wI hw 231 rfl) (wI hw 22 rfl) (wI hw 232 rfl) (by decide) (cNb2 l Z a0 hw n0 hEW N h0 σ hcap) (lenOf bNb2_pd rfl) rfl rfl rfl (by decide) (by decide) (ce' := 1) (sl' := 68) rfl rfl (by decide) (by decide) ?_
  rintro _ h_5 σ_6 m_7 ⟨d, rfl, gd, K_8, sd, Ad, ED⟩
  have ne_q_d : q ≠ d := Nat.ne_of_lt (Nat.lt_of_lt_of_le E.lt gd)
  have ne_b_d : b ≠ d := Nat.ne_of_lt (Nat.lt_of_lt_of_le Ab.lt gd)
  replace E := E.keep K_8
  replace Fc := Fc.keep K_8 nin0
  replace Fv := Fv.keep K_8 nin0
  replace Fn := Fn.keep K_8 nin0
  replace Fy := Fy.keep K_8 nin0
  replace Ab := Ab.keep K_8 nin0
  replace sq := m_7 _ sq
  refine Road.astoreN 16 #[.val (.ref q), .val (.ref d)] bAin_d16 rfl ?_
  refine Road.aloadN 17 bAin_d17 rfl ?_
  refine Road.getfield 18 bAin_d18 (wI hw 59 rfl) Via.refl Fv ?_
  refine Road.iconst 21 (0 : Int32) bAin_d21 rfl ?_
  refine Road.aloadN 22 bAin_d22 rfl ?_
  refine Road.iconst 23 (0 : Int32) bAin_d23 rfl ?_
  refine Road.aloadN 24 bAin_d24 rfl ?_
  refine Road.getfield 25 bAin_d25 (wI hw 90 rfl) Via.refl Fn ?_
  refine Road.callS (B' := bLin) 28 (argsL := [(.ref b), (.int (0 : Int32)), (.ref d), (.int (0 : Int32)), (.int (Nat.toInt32 cs.length))]) (rest := []) 0 bAin_d28 (wI hw 252 rfl) (wI hw 253 rfl) (wI hw 138 rfl) (wI hw 254 rfl) (by decide) (cLin l Z a0 hw n0 hEW b d [] cs r (List.replicate (2 * N) (.int 0)) N h_5 σ_6 Ab Ad hlt (by simp) (by simpa using hle) ne_b_d sd fm hfm Hf H0 H1 H2) (lenOf bLin_pd rfl) rfl rfl rfl (by decide) (by decide) (ce' := 1) (sl' := 68) rfl rfl (by decide) (by decide) ?_
  rintro _ h_10 σ_11 m_12 ⟨rfl, K_13, A2⟩
  replace E := E.keep K_13
  replace Fc := Fc.keep K_13 (ninS ne_q_d nin0)
  replace Fv := Fv.keep K_13 (ninS ne_q_d nin0)
  replace Fn := Fn.keep K_13 (ninS ne_q_d nin0)
  replace Fy := Fy.keep K_13 (ninS ne_q_d nin0)
  replace ED := ED.keep K_13
  replace sq := m_12 _ sq
  replace sd := m_12 _ sd
  refine Road.aloadN 31 bAin_d31 rfl ?_
  refine Road.aloadN 32 bAin_d32 rfl ?_
  refine Road.putfield 33 bAin_d33 (wI hw 59 rfl) Via.refl Fv E (Or.inl (wI hw 60 rfl)) (wI hw 46 rfl) (ty := (.array .byte)) (by decide) rfl rfl sq ?_
  intro h_18 W_16 K_17
  replace Fv := Fv.same W_16
  replace Fc := Fc.other W_16 (Or.inr (slot_ne (Or.inl (wI hw 62 rfl)) (Or.inl (wI hw 60 rfl)) (by decide) (t := .byte) (by decide) (t' := (.array .byte)) (by decide)))
  replace Fn := Fn.other W_16 (Or.inr (slot_ne (Or.inl (wI hw 91 rfl)) (Or.inl (wI hw 60 rfl)) (by decide) (t := .int) (by decide) (t' := (.array .byte)) (by decide)))
  replace Fy := Fy.other W_16 (Or.inr (slot_ne (Or.inl (wI hw 279 rfl)) (Or.inl (wI hw 60 rfl)) (by decide) (t := .boolean) (by decide) (t' := (.array .byte)) (by decide)))
  replace E := E.keep K_17
  replace ED := ED.keep K_17
  replace A2 := A2.keep K_17 (ninS (Ne.symm ne_q_d) nin0)
  refine Road.aloadN 36 bAin_d36 rfl ?_
  refine Road.iconst 37 (1 : Int32) bAin_d37 rfl ?_
  refine Road.putfield 38 bAin_d38 (wI hw 61 rfl) Via.refl Fc E (Or.inl (wI hw 62 rfl)) (wI hw 46 rfl) (ty := .byte) (by decide) rfl rfl sq ?_
  intro h_21 W_19 K_20
  replace Fc := Fc.same W_19
  replace Fv := Fv.other W_19 (Or.inr (slot_ne (Or.inl (wI hw 60 rfl)) (Or.inl (wI hw 62 rfl)) (by decide) (t := (.array .byte)) (by decide) (t' := .byte) (by decide)))
  replace Fn := Fn.other W_19 (Or.inr (slot_ne (Or.inl (wI hw 91 rfl)) (Or.inl (wI hw 62 rfl)) (by decide) (t := .int) (by decide) (t' := .byte) (by decide)))
  replace Fy := Fy.other W_19 (Or.inr (slot_ne (Or.inl (wI hw 279 rfl)) (Or.inl (wI hw 62 rfl)) (by decide) (t := .boolean) (by decide) (t' := .byte) (by decide)))
  replace E := E.keep K_20
  replace ED := ED.keep K_20
  replace A2 := A2.keep K_20 (ninS (Ne.symm ne_q_d) nin0)
  exact Road.ret 41 bAin_d41 rfl (by decide) (by decide) (fun σ' m => ⟨rfl, (((Road.keep_more (ws := [q]) K_8).trans K_13 (by intro x hx; cases List.mem_singleton.mp hx; exact Or.inr gd)).trans K_17 (by simp)).trans K_20 (by simp), d, ⟨E, Fc, Fv, Fn, ⟨_, A2, by simp only [List.length_append, List.length_map, Road.utf_len, List.length_replicate, List.length_drop, List.length_cons, List.length_nil]; omega⟩, fun c hc => ⟨(hlt c hc).1, by have := (hlt c hc).2; omega⟩, Fy, ED⟩, gd, m _ sd⟩)
def bAi1 : Road.Bdy := (⟨"java/lang/AbstractStringBuilder", "inflate", "()V"⟩, jdk_68_method_11_code, 2, none, { frames := 1, cells := 0, slots := 0, locals := 12 })
theorem bAi1_pd : parseMethodDescriptor "()V" = some ⟨[], none⟩ := by decide +kernel
theorem bAi1_pn : plainFor bAi1.y = true := plainFor_of_name (show plainName "java/lang/AbstractStringBuilder" = true from by first | (simp [plainName, overriddenIn]; done) | decide +kernel)
theorem cAi1 (l : Launch) (Z : State) (a0 : Array Value) (hw : ∀ d ∈ tables_1, d.before a0 Z = true) (n0 : Nat) (hEW : EW Z a0 consts_1) (q : Addr) (h0 : Heap) (σ : Addr → Prop) (E : Exa Z h0 q Road.SB) (Fc : Fld Z h0 q Road.AB "coder" "B" (.int 1)) (cp : Int32) (Hc : Sta Z Z.heap Road.SN "COMPACT_STRINGS" "Z" (.int cp)) (hcp : ¬ cp = 0) :
    Road.Con l Z consts_1 n0 false bAi1 [] σ #[(.ref q)] h0 (fun v h2 s2 => v = none ∧ h0 = h2) := by
  refine Road.Con.of bAi1_pn hEW #[.val (.ref q), .unset] (fun m => Road.ent (Road.laid1 rfl Road.laid0) (k := 1) rfl rfl) ?_
  intro D hD
  refine Road.aloadN 0 bAin_d0 rfl ?_
  refine Road.callV (B' := bAL1) (a := q) 1 (argsL := []) (rest := []) "java/lang/StringBuilder" 0 bAin_d1 (wI hw 131 rfl) (wI hw 132 rfl) (fun vm hz => Road.notFace_sib (args := #[]) (mv (s := D.s.setVm vm) hz (wI hw 95 rfl)) rfl) (wI hw 134 rfl) (wI hw 133 rfl) (wI hw 55 rfl) (wI hw 135 rfl) (by decide) E (cAL1 l Z a0 hw n0 hEW q h0 σ Fc cp Hc hcp) (lenOf bAL1_pd rfl) rfl rfl rfl (by decide) (by decide) (ce' := 0) (sl' := 0) rfl rfl (by decide) (by decide) ?_
  rintro _ h_1 σ_2 m_3 ⟨rfl, rfl⟩
  refine Road.Go.weaken (σ' := σ) m_3 (Nat.le_refl _) (Nat.le_refl _) ?_
  refine Road.if_ne 4 8 bAin_d4 rfl (fun q => absurd q (by decide)) (fun hc4 => ?_)
  exact Road.ret 7 bAin_d7 rfl (by decide) (by decide) (fun σ' m => ⟨rfl, rfl⟩)
def bIf00 : Road.Bdy := (⟨"java/lang/AbstractStringBuilder", "inflateIfNeededFor", "(Ljava/lang/String;)V"⟩, jdk_68_method_71_code, 2, none, { frames := 1, cells := 0, slots := 0, locals := 13 })
theorem bIf00_d0 : decode bIf00.bs 0 = .ok (.getstatic 18, 3) := by decide +kernel
theorem bIf00_d3 : decode bIf00.bs 3 = .ok (.ifCond .eq 18, 3) := by decide +kernel
theorem bIf00_d6 : decode bIf00.bs 6 = .ok (.aload_n 0, 1) := by decide +kernel
theorem bIf00_d7 : decode bIf00.bs 7 = .ok (.getfield 22, 3) := by decide +kernel
theorem bIf00_d10 : decode bIf00.bs 10 = .ok (.aload_n 1, 1) := by decide +kernel
theorem bIf00_d11 : decode bIf00.bs 11 = .ok (.invokevirtual 40, 3) := by decide +kernel
theorem bIf00_d14 : decode bIf00.bs 14 = .ok (.if_icmp .eq 7, 3) := by decide +kernel
theorem bIf00_d17 : decode bIf00.bs 17 = .ok (.aload_n 0, 1) := by decide +kernel
theorem bIf00_d18 : decode bIf00.bs 18 = .ok (.invokevirtual 195, 3) := by decide +kernel
theorem bIf00_d21 : decode bIf00.bs 21 = .ok (.return_, 1) := by decide +kernel
theorem bIf00_pd : parseMethodDescriptor "(Ljava/lang/String;)V" = some ⟨[(.object "java/lang/String")], none⟩ := by decide +kernel
theorem bIf00_pn : plainFor bIf00.y = true := plainFor_of_name (show plainName "java/lang/AbstractStringBuilder" = true from by first | (simp [plainName, overriddenIn]; done) | decide +kernel)
theorem cIf00 (l : Launch) (Z : State) (a0 : Array Value) (hw : ∀ d ∈ tables_1, d.before a0 Z = true) (n0 : Nat) (hEW : EW Z a0 consts_1) (q b : Addr) (cs : List Int32) (N : Nat) (s sb : Addr) (ds : List Int32) (h0 : Heap) (σ : Addr → Prop) (S : Road.Sb0 Z h0 q b cs N) (T : Road.Str Z h0 s sb ds) (cp : Int32) (Hc : Sta Z Z.heap Road.SN "COMPACT_STRINGS" "Z" (.int cp)) (hcp : ¬ cp = 0) (fm : Value) (hfm : fm.isRef = true) (Hf : Sta Z Z.heap "jdk/internal/util/Preconditions" "SIOOBE_FORMATTER" "Ljava/util/function/BiFunction;" fm) (H0 : Sta Z Z.heap "java/lang/StringUTF16" "$assertionsDisabled" "Z" (.int 1)) (H1 : Sta Z Z.heap "java/lang/StringUTF16" "HI_BYTE_SHIFT" "I" (.int 0)) (H2 : Sta Z Z.heap "java/lang/StringUTF16" "LO_BYTE_SHIFT" "I" (.int 8)) :
    Road.Con l Z consts_1 n0 false bIf00 [] σ #[(.ref q), (.ref s)] h0 (fun v h2 s2 => v = none ∧ h0 = h2) := by
  have S0 := S
  obtain ⟨E, Fc, -⟩ := S
  refine Road.Con.of bIf00_pn hEW #[.val (.ref q), .val (.ref s)] (fun m => Road.ent (Road.laid1 rfl (Road.laid1 rfl Road.laid0)) (k := 0) rfl rfl) ?_
  intro D hD
  refine Road.getstatic 0 bIf00_d0 (wI hw 58 rfl) Via.refl Hc ?_
  refine Road.if_eq 3 21 bIf00_d3 rfl (fun q => absurd q hcp) (fun hc3 => ?_)
  refine Road.aloadN 6 bIf00_d6 rfl ?_
  refine Road.getfield 7 bIf00_d7 (wI hw 61 rfl) Via.refl Fc ?_
  refine Road.aloadN 10 bIf00_d10 rfl ?_
  refine Road.callV (B' := bCod) (a := s) 11 (argsL := []) (rest := [(.int (0 : Int32))]) "java/lang/String" 1 bIf00_d11 (wI hw 107 rfl) (wI hw 86 rfl) (fun vm hz => Road.notFace_sib (args := #[]) (mv (s := D.s.setVm vm) hz (wI hw 83 rfl)) rfl) (wI hw 88 rfl) (wI hw 87 rfl) (wI hw 7 rfl) (wI hw 89 rfl) (by decide) T.1 (cCod l Z a0 hw n0 hEW s h0 σ T.2.1 cp Hc hcp) (lenOf bCod_pd rfl) rfl rfl rfl (by decide) (by decide) (ce' := 0) (sl' := 0) rfl rfl (by decide) (by decide) ?_
  rintro _ h_1 σ_2 m_3 ⟨rfl, rfl⟩
  refine Road.Go.weaken (σ' := σ) m_3 (Nat.le_refl _) (Nat.le_refl _) ?_
  refine Road.icmp_eq 14 21 bIf00_d14 rfl (fun hc14 => ?_) (fun q => absurd q (by decide))
  exact Road.ret 21 bIf00_d21 rfl (by decide) (by decide) (fun σ' m => ⟨rfl, rfl⟩)
def bGb00 : Road.Bdy := (⟨"java/lang/String", "getBytes", "([BIB)V"⟩, jdk_42_method_147_code, 4, none, { frames := 1, cells := 0, slots := 0, locals := 18 })
theorem bGb00_d0 : decode bGb00.bs 0 = .ok (.aload_n 0, 1) := by decide +kernel
theorem bGb00_d1 : decode bGb00.bs 1 = .ok (.invokevirtual 335, 3) := by decide +kernel
theorem bGb00_d4 : decode bGb00.bs 4 = .ok (.iload_n 3, 1) := by decide +kernel
theorem bGb00_d5 : decode bGb00.bs 5 = .ok (.if_icmp .ne 23, 3) := by decide +kernel
theorem bGb00_d8 : decode bGb00.bs 8 = .ok (.aload_n 0, 1) := by decide +kernel
theorem bGb00_d9 : decode bGb00.bs 9 = .ok (.getfield 9, 3) := by decide +kernel
theorem bGb00_d12 : decode bGb00.bs 12 = .ok (.iconst 0, 1) := by decide +kernel
theorem bGb00_d13 : decode bGb00.bs 13 = .ok (.aload_n 1, 1) := by decide +kernel
theorem bGb00_d14 : decode bGb00.bs 14 = .ok (.iload_n 2, 1) := by decide +kernel
theorem bGb00_d15 : decode bGb00.bs 15 = .ok (.iload_n 3, 1) := by decide +kernel
theorem bGb00_d16 : decode bGb00.bs 16 = .ok (.ishl, 1) := by decide +kernel
theorem bGb00_d17 : decode bGb00.bs 17 = .ok (.aload_n 0, 1) := by decide +kernel
theorem bGb00_d18 : decode bGb00.bs 18 = .ok (.getfield 9, 3) := by decide +kernel
theorem bGb00_d21 : decode bGb00.bs 21 = .ok (.arraylength, 1) := by decide +kernel
theorem bGb00_d22 : decode bGb00.bs 22 = .ok (.invokestatic 212, 3) := by decide +kernel
theorem bGb00_d25 : decode bGb00.bs 25 = .ok (.goto 18, 3) := by decide +kernel
theorem bGb00_d28 : decode bGb00.bs 28 = .ok (.aload_n 0, 1) := by decide +kernel
theorem bGb00_d29 : decode bGb00.bs 29 = .ok (.getfield 9, 3) := by decide +kernel
theorem bGb00_d32 : decode bGb00.bs 32 = .ok (.iconst 0, 1) := by decide +kernel
theorem bGb00_d33 : decode bGb00.bs 33 = .ok (.aload_n 1, 1) := by decide +kernel
theorem bGb00_d34 : decode bGb00.bs 34 = .ok (.iload_n 2, 1) := by decide +kernel
theorem bGb00_d35 : decode bGb00.bs 35 = .ok (.aload_n 0, 1) := by decide +kernel
theorem bGb00_d36 : decode bGb00.bs 36 = .ok (.getfield 9, 3) := by decide +kernel
theorem bGb00_d39 : decode bGb00.bs 39 = .ok (.arraylength, 1) := by decide +kernel
theorem bGb00_d40 : decode bGb00.bs 40 = .ok (.invokestatic 106, 3) := by decide +kernel
theorem bGb00_d43 : decode bGb00.bs 43 = .ok (.return_, 1) := by decide +kernel
theorem bGb00_pd : parseMethodDescriptor "([BIB)V" = some ⟨[(.array .byte), .int, .byte], none⟩ := by decide +kernel
theorem bGb00_pn : plainFor bGb00.y = true := plainFor_of_name (show plainName "java/lang/String" = true from by first | (simp [plainName, overriddenIn]; done) | decide +kernel)
theorem cGb00 (l : Launch) (Z : State) (a0 : Array Value) (hw : ∀ d ∈ tables_1, d.before a0 Z = true) (n0 : Nat) (hEW : EW Z a0 consts_1) (s sb d : Addr) (ds : List Int32) (vd : List Value) (i : Nat) (h0 : Heap) (σ : Addr → Prop) (T : Road.Str Z h0 s sb ds) (Ad : Road.Ary Z h0 d .byte vd) (hi : i + ds.length ≤ vd.length) (sd : σ d) (cp : Int32) (Hc : Sta Z Z.heap Road.SN "COMPACT_STRINGS" "Z" (.int cp)) (hcp : ¬ cp = 0) (fm : Value) (hfm : fm.isRef = true) (Hf : Sta Z Z.heap "jdk/internal/util/Preconditions" "SIOOBE_FORMATTER" "Ljava/util/function/BiFunction;" fm) (H0 : Sta Z Z.heap "java/lang/StringUTF16" "$assertionsDisabled" "Z" (.int 1)) (H1 : Sta Z Z.heap "java/lang/StringUTF16" "HI_BYTE_SHIFT" "I" (.int 0)) (H2 : Sta Z Z.heap "java/lang/StringUTF16" "LO_BYTE_SHIFT" "I" (.int 8)) :
    Road.Con l Z consts_1 n0 false bGb00 [] σ #[(.ref s), (.ref d), (.int (Nat.toInt32 i)), (.int (0 : Int32))] h0 (fun v h2 _ => v = none ∧ Keep h0 h2 [d] ∧ Road.Ary Z h2 d .byte (vd.take i ++ ((ds.map Road.byt).drop 0).take ds.length ++ vd.drop (i + ds.length))) := by
  have hsm := Ad.small
  refine Road.Con.of bGb00_pn hEW #[.val (.ref s), .val (.ref d), .val (.int (Nat.toInt32 i)), .val (.int (0 : Int32))] (fun m => Road.ent (Road.laid1 rfl (Road.laid1 rfl (Road.laid1 rfl (Road.laid1 rfl Road.laid0)))) (k := 0) rfl rfl) ?_
  intro D hD
  refine Road.aloadN 0 bGb00_d0 rfl ?_
  refine Road.callV (B' := bCod) (a := s) 1 (argsL := []) (rest := []) "java/lang/String" 0 bGb00_d1 (wI hw 85 rfl) (wI hw 86 rfl) (fun vm hz => Road.notFace_sib (args := #[]) (mv (s := D.s.setVm vm) hz (wI hw 83 rfl)) rfl) (wI hw 88 rfl) (wI hw 87 rfl) (wI hw 7 rfl) (wI hw 89 rfl) (by decide) T.1 (cCod l Z a0 hw n0 hEW s h0 σ T.2.1 cp Hc hcp) (lenOf bCod_pd rfl) rfl rfl rfl (by decide) (by decide) (ce' := 0) (sl' := 0) rfl rfl (by decide) (by decide) ?_
  rintro _ h_1 σ_2 m_3 ⟨rfl, rfl⟩
  refine Road.Go.weaken (σ' := σ) m_3 (Nat.le_refl _) (Nat.le_refl _) ?_
  refine Road.iloadN 4 bGb00_d4 rfl ?_
  refine Road.icmp_ne 5 28 bGb00_d5 rfl (fun q => absurd q (by decide)) (fun hc5 => ?_)
  refine Road.aloadN 8 bGb00_d8 rfl ?_
  refine Road.getfield 9 bGb00_d9 (wI hw 33 rfl) Via.refl T.2.2.1 ?_
  refine Road.iconst 12 (0 : Int32) bGb00_d12 rfl ?_
  refine Road.aloadN 13 bGb00_d13 rfl ?_
  refine Road.iloadN 14 bGb00_d14 rfl ?_
  refine Road.iloadN 15 bGb00_d15 rfl ?_
  refine Road.ishl 16 bGb00_d16 ?_
  refine Road.nameI ?_
  intro z_5 hz_5
  obtain rfl : z_5 = (Nat.toInt32 i) := by rw [hz_5]; exact Road.shl0 _
  refine Road.aloadN 17 bGb00_d17 rfl ?_
  refine Road.getfield 18 bGb00_d18 (wI hw 33 rfl) Via.refl T.2.2.1 ?_
  refine Road.alen 21 (Nat.toInt32 ds.length) bGb00_d21 T.2.2.2.1 (n := ds.length) (List.length_map _) rfl ?_
  refine Road.acopy 22 0 i ds.length 0 bGb00_d22 (wI hw 113 rfl) (wI hw 116 rfl) (wI hw 114 rfl) (wI hw 115 rfl) T.2.2.2.1 Ad rfl rfl (Road.n32 (by omega)) (Road.n32 (by omega)) (by rw [List.length_map]; omega) hi sd rfl rfl (by decide) (by decide) ?_
  intro h_6 K_7 Ae
  refine Road.goto 25 43 bGb00_d25 rfl ?_
  exact Road.ret 43 bGb00_d43 rfl (by decide) (by decide) (fun σ' m => ⟨rfl, K_7, Ae⟩)
def bPs00 : Road.Bdy := (⟨"java/lang/AbstractStringBuilder", "putStringAt", "(ILjava/lang/String;)V"⟩, jdk_68_method_73_code, 3, none, { frames := 2, cells := 0, slots := 0, locals := 33 })
theorem bPs00_d0 : decode bPs00.bs 0 = .ok (.aload_n 0, 1) := by decide +kernel
theorem bPs00_d1 : decode bPs00.bs 1 = .ok (.aload_n 2, 1) := by decide +kernel
theorem bPs00_d2 : decode bPs00.bs 2 = .ok (.invokevirtual 397, 3) := by decide +kernel
theorem bPs00_d5 : decode bPs00.bs 5 = .ok (.aload_n 2, 1) := by decide +kernel
theorem bPs00_d6 : decode bPs00.bs 6 = .ok (.aload_n 0, 1) := by decide +kernel
theorem bPs00_d7 : decode bPs00.bs 7 = .ok (.getfield 15, 3) := by decide +kernel
theorem bPs00_d10 : decode bPs00.bs 10 = .ok (.iload_n 1, 1) := by decide +kernel
theorem bPs00_d11 : decode bPs00.bs 11 = .ok (.aload_n 0, 1) := by decide +kernel
theorem bPs00_d12 : decode bPs00.bs 12 = .ok (.getfield 22, 3) := by decide +kernel
theorem bPs00_d15 : decode bPs00.bs 15 = .ok (.invokevirtual 399, 3) := by decide +kernel
theorem bPs00_d18 : decode bPs00.bs 18 = .ok (.return_, 1) := by decide +kernel
theorem bPs00_pd : parseMethodDescriptor "(ILjava/lang/String;)V" = some ⟨[.int, (.object "java/lang/String")], none⟩ := by decide +kernel
theorem bPs00_pn : plainFor bPs00.y = true := plainFor_of_name (show plainName "java/lang/AbstractStringBuilder" = true from by first | (simp [plainName, overriddenIn]; done) | decide +kernel)
theorem cPs00 (l : Launch) (Z : State) (a0 : Array Value) (hw : ∀ d ∈ tables_1, d.before a0 Z = true) (n0 : Nat) (hEW : EW Z a0 consts_1) (q b : Addr) (cs : List Int32) (N : Nat) (s sb : Addr) (ds : List Int32) (h0 : Heap) (σ : Addr → Prop) (S : Road.Sb0 Z h0 q b cs N) (T : Road.Str Z h0 s sb ds) (hm : cs.length + ds.length ≤ N) (hcap : N ≤ 34) (nsq : s ≠ q) (nbq : sb ≠ q) (nsb : s ≠ b) (nbb : sb ≠ b) (sb_ : σ b) (sq : σ q) (cp : Int32) (Hc : Sta Z Z.heap Road.SN "COMPACT_STRINGS" "Z" (.int cp)) (hcp : ¬ cp = 0) (fm : Value) (hfm : fm.isRef = true) (Hf : Sta Z Z.heap "jdk/internal/util/Preconditions" "SIOOBE_FORMATTER" "Ljava/util/function/BiFunction;" fm) (H0 : Sta Z Z.heap "java/lang/StringUTF16" "$assertionsDisabled" "Z" (.int 1)) (H1 : Sta Z Z.heap "java/lang/StringUTF16" "HI_BYTE_SHIFT" "I" (.int 0)) (H2 : Sta Z Z.heap "java/lang/StringUTF16" "LO_BYTE_SHIFT" "I" (.int 8)) :
    Road.Con l Z consts_1 n0 false bPs00 [] σ #[(.ref q), (.int (Nat.toInt32 cs.length)), (.ref s)] h0 (fun v h2 s2 => v = none ∧ Keep h0 h2 [q, b] ∧ ∃ d, (Exa Z h2 q Road.SB ∧ Fld Z h2 q Road.AB "coder" "B" (.int 0) ∧ Fld Z h2 q Road.AB "value" "[B" (.ref d) ∧ Fld Z h2 q Road.AB "count" "I" (.int (Nat.toInt32 cs.length)) ∧ (∃ r, Road.Ary Z h2 d .byte (((cs ++ ds).map Road.byt) ++ r) ∧ (cs ++ ds).length + r.length = N) ∧ Fld Z h2 q Road.AB "maybeLatin1" "Z" (.int 0) ∧ Exa Z h2 d "[B") ∧ (d = b ∨ h0.size ≤ d) ∧ s2 d) := by
  have hN := S.small
  have hle := S.le
  have S0 := S
  obtain ⟨E, Fc, Fv, Fn, ⟨r, Ab, hr⟩, hlt, Fy, EB⟩ := S
  have nqb : q ≠ b := by obtain ⟨c, Ar, -⟩ := Ab; exact ne_arr E (wI hw 46 rfl) Ar
  refine Road.Con.of bPs00_pn hEW #[.val (.ref q), .val (.int (Nat.toInt32 cs.length)), .val (.ref s)] (fun m => Road.ent (Road.laid1 rfl (Road.laid1 rfl (Road.laid1 rfl Road.laid0))) (k := 0) rfl rfl) ?_
  intro D hD
  refine Road.aloadN 0 bPs00_d0 rfl ?_
  refine Road.aloadN 1 bPs00_d1 rfl ?_
  refine Road.callP (B' := bIf00) (a := q) 2 (argsL := [(.ref s)]) (rest := []) "java/lang/StringBuilder" 0 bPs00_d2 (wI hw 102 rfl) (wI hw 104 rfl) (wI hw 105 rfl) (wI hw 103 rfl) (wI hw 55 rfl) (wI hw 106 rfl) (by decide) E (cIf00 l Z a0 hw n0 hEW q b cs N s sb ds h0 σ S0 T cp Hc hcp fm hfm Hf H0 H1 H2) (lenOf bIf00_pd rfl) rfl rfl rfl (by decide) (by decide) (ce' := 0) (sl' := 0) rfl rfl (by decide) (by decide) ?_
  rintro _ h_1 σ_2 m_3 ⟨rfl, rfl⟩
  refine Road.Go.weaken (σ' := σ) m_3 (Nat.le_refl _) (Nat.le_refl _) ?_
  refine Road.aloadN 5 bPs00_d5 rfl ?_
  refine Road.aloadN 6 bPs00_d6 rfl ?_
  refine Road.getfield 7 bPs00_d7 (wI hw 59 rfl) Via.refl Fv ?_
  refine Road.iloadN 10 bPs00_d10 rfl ?_
  refine Road.aloadN 11 bPs00_d11 rfl ?_
  refine Road.getfield 12 bPs00_d12 (wI hw 61 rfl) Via.refl Fc ?_
  refine Road.callV (B' := bGb00) (a := s) 15 (argsL := [(.ref b), (.int (Nat.toInt32 cs.length)), (.int (0 : Int32))]) (rest := []) "java/lang/String" 0 bPs00_d15 (wI hw 108 rfl) (wI hw 109 rfl) (fun vm hz => Road.notFace_sib (args := #[]) (mv (s := D.s.setVm vm) hz (wI hw 83 rfl)) rfl) (wI hw 111 rfl) (wI hw 110 rfl) (wI hw 7 rfl) (wI hw 112 rfl) (by decide) T.1 (cGb00 l Z a0 hw n0 hEW s sb b ds _ cs.length h0 σ T Ab (by simp only [List.length_append, List.length_map, Road.utf_len, List.length_replicate, List.length_drop, List.length_cons, List.length_nil]; omega) sb_ cp Hc hcp fm hfm Hf H0 H1 H2) (lenOf bGb00_pd rfl) rfl rfl rfl (by decide) (by decide) (ce' := 0) (sl' := 0) rfl rfl (by decide) (by decide) ?_
  rintro _ h_5 σ_6 m_7 ⟨rfl, K_8, A2⟩
  replace E := E.keep K_8
  replace Fc := Fc.keep K_8 (ninS nqb nin0)
  replace Fv := Fv.keep K_8 (ninS nqb nin0)
  replace Fn := Fn.keep K_8 (ninS nqb nin0)
  replace Fy := Fy.keep K_8 (ninS nqb nin0)
  replace EB := EB.keep K_8
  replace sq := m_7 _ sq
  replace sb_ := m_7 _ sb_
  rw [Road.put_str _ _ _ (by omega)] at A2
  exact Road.ret 18 bPs00_d18 rfl (by decide) (by decide) (fun σ' m => ⟨rfl, (Road.keep_sub K_8 (by simp)), b, ⟨E, Fc, Fv, Fn, ⟨_, A2, by simp only [List.length_append, List.length_map, Road.utf_len, List.length_replicate, List.length_drop, List.length_cons, List.length_nil]; omega⟩, Fy, EB⟩, Or.inl rfl, m _ sb_⟩)
def bAs000 : Road.Bdy := (⟨"java/lang/AbstractStringBuilder", "append", "(Ljava/lang/String;)Ljava/lang/AbstractStringBuilder;"⟩, jdk_68_method_22_code, 3, (some (.object "java/lang/AbstractStringBuilder")), { frames := 3, cells := 0, slots := 0, locals := 48 })
theorem bAs000_d0 : decode bAs000.bs 0 = .ok (.aload_n 1, 1) := by decide +kernel
theorem bAs000_d1 : decode bAs000.bs 1 = .ok (.ifnonnull 8, 3) := by decide +kernel
theorem bAs000_d4 : decode bAs000.bs 4 = .ok (.aload_n 0, 1) := by decide +kernel
theorem bAs000_d5 : decode bAs000.bs 5 = .ok (.invokevirtual 204, 3) := by decide +kernel
theorem bAs000_d8 : decode bAs000.bs 8 = .ok (.areturn, 1) := by decide +kernel
theorem bAs000_d9 : decode bAs000.bs 9 = .ok (.aload_n 1, 1) := by decide +kernel
theorem bAs000_d10 : decode bAs000.bs 10 = .ok (.invokevirtual 32, 3) := by decide +kernel
theorem bAs000_d13 : decode bAs000.bs 13 = .ok (.istore_n 2, 1) := by decide +kernel
theorem bAs000_d14 : decode bAs000.bs 14 = .ok (.aload_n 0, 1) := by decide +kernel
theorem bAs000_d15 : decode bAs000.bs 15 = .ok (.aload_n 0, 1) := by decide +kernel
theorem bAs000_d16 : decode bAs000.bs 16 = .ok (.getfield 79, 3) := by decide +kernel
theorem bAs000_d19 : decode bAs000.bs 19 = .ok (.iload_n 2, 1) := by decide +kernel
theorem bAs000_d20 : decode bAs000.bs 20 = .ok (.iadd, 1) := by decide +kernel
theorem bAs000_d21 : decode bAs000.bs 21 = .ok (.invokevirtual 100, 3) := by decide +kernel
theorem bAs000_d24 : decode bAs000.bs 24 = .ok (.aload_n 0, 1) := by decide +kernel
theorem bAs000_d25 : decode bAs000.bs 25 = .ok (.aload_n 0, 1) := by decide +kernel
theorem bAs000_d26 : decode bAs000.bs 26 = .ok (.getfield 79, 3) := by decide +kernel
theorem bAs000_d29 : decode bAs000.bs 29 = .ok (.aload_n 1, 1) := by decide +kernel
theorem bAs000_d30 : decode bAs000.bs 30 = .ok (.invokevirtual 208, 3) := by decide +kernel
theorem bAs000_d33 : decode bAs000.bs 33 = .ok (.aload_n 0, 1) := by decide +kernel
theorem bAs000_d34 : decode bAs000.bs 34 = .ok (.dup, 1) := by decide +kernel
theorem bAs000_d35 : decode bAs000.bs 35 = .ok (.getfield 79, 3) := by decide +kernel
theorem bAs000_d38 : decode bAs000.bs 38 = .ok (.iload_n 2, 1) := by decide +kernel
theorem bAs000_d39 : decode bAs000.bs 39 = .ok (.iadd, 1) := by decide +kernel
theorem bAs000_d40 : decode bAs000.bs 40 = .ok (.putfield 79, 3) := by decide +kernel
theorem bAs000_d43 : decode bAs000.bs 43 = .ok (.aload_n 0, 1) := by decide +kernel
theorem bAs000_d44 : decode bAs000.bs 44 = .ok (.areturn, 1) := by decide +kernel
theorem bAs000_pd : parseMethodDescriptor "(Ljava/lang/String;)Ljava/lang/AbstractStringBuilder;" = some ⟨[(.object "java/lang/String")], (some (.object "java/lang/AbstractStringBuilder"))⟩ := by decide +kernel
theorem bAs000_pn : plainFor bAs000.y = true := plainFor_of_name (show plainName "java/lang/AbstractStringBuilder" = true from by first | (simp [plainName, overriddenIn]; done) | decide +kernel)
theorem cAs000 (l : Launch) (Z : State) (a0 : Array Value) (hw : ∀ d ∈ tables_1, d.before a0 Z = true) (n0 : Nat) (hEW : EW Z a0 consts_1) (q b : Addr) (cs : List Int32) (N : Nat) (s sb : Addr) (ds : List Int32) (h0 : Heap) (σ : Addr → Prop) (S : Road.Sb0 Z h0 q b cs N) (T : Road.Str Z h0 s sb ds) (hm : cs.length + ds.length ≤ N) (hcap : N ≤ 34) (nsq : s ≠ q) (nbq : sb ≠ q) (nsb : s ≠ b) (nbb : sb ≠ b) (sb_ : σ b) (sq : σ q) (cp : Int32) (Hc : Sta Z Z.heap Road.SN "COMPACT_STRINGS" "Z" (.int cp)) (hcp : ¬ cp = 0) (fm : Value) (hfm : fm.isRef = true) (Hf : Sta Z Z.heap "jdk/internal/util/Preconditions" "SIOOBE_FORMATTER" "Ljava/util/function/BiFunction;" fm) (H0 : Sta Z Z.heap "java/lang/StringUTF16" "$assertionsDisabled" "Z" (.int 1)) (H1 : Sta Z Z.heap "java/lang/StringUTF16" "HI_BYTE_SHIFT" "I" (.int 0)) (H2 : Sta Z Z.heap "java/lang/StringUTF16" "LO_BYTE_SHIFT" "I" (.int 8)) :
    Road.Con l Z consts_1 n0 false bAs000 [] σ #[(.ref q), (.ref s)] h0 (fun v h2 s2 => v = some (.ref q) ∧ Keep h0 h2 [q, b] ∧ ∃ d, Road.Sb0 Z h2 q d (cs ++ ds) N ∧ (d = b ∨ h0.size ≤ d) ∧ s2 d) := by
  have hN := S.small
  have hle := S.le
  have S0 := S
  obtain ⟨E, Fc, Fv, Fn, ⟨r, Ab, hr⟩, hlt, Fy, EB⟩ := S
  refine Road.Con.of bAs000_pn hEW #[.val (.ref q), .val (.ref s), .unset] (fun m => Road.ent (Road.laid1 rfl (Road.laid1 rfl Road.laid0)) (k := 1) rfl rfl) ?_
  intro D hD
  clear EB
  refine Road.aloadN 0 bAs000_d0 rfl ?_
  refine Road.ifnonnull 1 9 rfl bAs000_d1 rfl (fun hc1 => ?_) (fun q => absurd q (by simp))
  refine Road.aloadN 9 bAs000_d9 rfl ?_
  refine Road.callV (B' := bLen) (a := s) 10 (argsL := []) (rest := []) "java/lang/String" 0 bAs000_d10 (wI hw 80 rfl) (wI hw 81 rfl) (fun vm hz => Road.notFace_sib (args := #[]) (mv (s := D.s.setVm vm) hz (wI hw 83 rfl)) rfl) (wI hw 83 rfl) (wI hw 82 rfl) (wI hw 7 rfl) (wI hw 84 rfl) (by decide) T.1 (cLen l Z a0 hw n0 hEW s sb ds h0 σ T cp Hc hcp) (lenOf bLen_pd rfl) rfl rfl rfl (by decide) (by decide) (ce' := 0) (sl' := 0) rfl rfl (by decide) (by decide) ?_
  rintro _ h_1 σ_2 m_3 ⟨rfl, rfl⟩
  refine Road.Go.weaken (σ' := σ) m_3 (Nat.le_refl _) (Nat.le_refl _) ?_
  refine Road.istoreN 13 #[.val (.ref q), .val (.ref s), .val (.int (Nat.toInt32 ds.length))] bAs000_d13 rfl ?_
  refine Road.aloadN 14 bAs000_d14 rfl ?_
  refine Road.aloadN 15 bAs000_d15 rfl ?_
  refine Road.getfield 16 bAs000_d16 (wI hw 90 rfl) Via.refl Fn ?_
  refine Road.iloadN 19 bAs000_d19 rfl ?_
  refine Road.iadd 20 bAs000_d20 ?_
  refine Road.nameI ?_
  intro z_5 hz_5
  obtain rfl : z_5 = (Nat.toInt32 (cs.length + ds.length)) := by rw [hz_5]; exact Road.add32n _ _
  refine Road.callP (B' := bEa0) (a := q) 21 (argsL := [(.int (Nat.toInt32 (cs.length + ds.length)))]) (rest := []) "java/lang/StringBuilder" 0 bAs000_d21 (wI hw 92 rfl) (wI hw 94 rfl) (wI hw 95 rfl) (wI hw 93 rfl) (wI hw 55 rfl) (wI hw 96 rfl) (by decide) E (cEa0 l Z a0 hw n0 hEW q b cs N (cs.length + ds.length) h0 σ S0 hm) (lenOf bEa0_pd rfl) rfl rfl rfl (by decide) (by decide) (ce' := 0) (sl' := 0) rfl rfl (by decide) (by decide) ?_
  rintro _ h_6 σ_7 m_8 ⟨rfl, rfl⟩
  refine Road.Go.weaken (σ' := σ) m_8 (Nat.le_refl _) (Nat.le_refl _) ?_
  refine Road.aloadN 24 bAs000_d24 rfl ?_
  refine Road.aloadN 25 bAs000_d25 rfl ?_
  refine Road.getfield 26 bAs000_d26 (wI hw 90 rfl) Via.refl Fn ?_
  refine Road.aloadN 29 bAs000_d29 rfl ?_
  refine Road.callP (B' := bPs00) (a := q) 30 (argsL := [(.int (Nat.toInt32 cs.length)), (.ref s)]) (rest := []) "java/lang/StringBuilder" 0 bAs000_d30 (wI hw 97 rfl) (wI hw 99 rfl) (wI hw 100 rfl) (wI hw 98 rfl) (wI hw 55 rfl) (wI hw 101 rfl) (by decide) E (cPs00 l Z a0 hw n0 hEW q b cs N s sb ds h0 σ S0 T hm hcap nsq nbq nsb nbb sb_ sq cp Hc hcp fm hfm Hf H0 H1 H2) (lenOf bPs00_pd rfl) rfl rfl rfl (by decide) (by decide) (ce' := 0) (sl' := 0) rfl rfl (by decide) (by decide) ?_
  rintro _ h_10 σ_11 m_12 ⟨rfl, K_13, d, ⟨E2, Fc2, Fv2, Fn2, ⟨r3, A3, hr3⟩, Fy2, EB2⟩, gd, sd⟩
  replace sq := m_12 _ sq
  replace sb_ := m_12 _ sb_
  replace E := E2
  replace Fc := Fc2
  replace Fv := Fv2
  replace Fn := Fn2
  have Fy := Fy2
  have nqd : q ≠ d := by obtain ⟨c, Ar, -⟩ := A3; exact ne_arr E (wI hw 46 rfl) Ar
  refine Road.aloadN 33 bAs000_d33 rfl ?_
  refine Road.dup 34 bAs000_d34 ?_
  refine Road.getfield 35 bAs000_d35 (wI hw 90 rfl) Via.refl Fn ?_
  refine Road.iloadN 38 bAs000_d38 rfl ?_
  refine Road.iadd 39 bAs000_d39 ?_
  refine Road.nameI ?_
  intro z_16 hz_16
  obtain rfl : z_16 = (Nat.toInt32 (cs ++ ds).length) := by rw [hz_16]; rw [Road.add32n, List.length_append]
  refine Road.putfield 40 bAs000_d40 (wI hw 90 rfl) Via.refl Fn E (Or.inl (wI hw 91 rfl)) (wI hw 46 rfl) (ty := .int) (by decide) rfl rfl sq ?_
  intro h_19 W_17 K_18
  replace Fn := Fn.same W_17
  replace Fc := Fc.other W_17 (Or.inr (slot_ne (Or.inl (wI hw 62 rfl)) (Or.inl (wI hw 91 rfl)) (by decide) (t := .byte) (by decide) (t' := .int) (by decide)))
  replace Fv := Fv.other W_17 (Or.inr (slot_ne (Or.inl (wI hw 60 rfl)) (Or.inl (wI hw 91 rfl)) (by decide) (t := (.array .byte)) (by decide) (t' := .int) (by decide)))
  replace Fy := Fy.other W_17 (Or.inr (slot_ne (Or.inl (wI hw 279 rfl)) (Or.inl (wI hw 91 rfl)) (by decide) (t := .boolean) (by decide) (t' := .int) (by decide)))
  replace E := E.keep K_18
  replace A3 := A3.keep K_18 (ninS (Ne.symm nqd) nin0)
  replace EB2 := EB2.keep K_18
  refine Road.aloadN 43 bAs000_d43 rfl ?_
  exact Road.aret 44 bAs000_d44 (t := (.object "java/lang/AbstractStringBuilder")) rfl rfl rfl (by decide) (by decide) (fun σ' m => ⟨rfl, (K_13.trans K_18 (by simp)), d, ⟨E, Fc, Fv, Fn, ⟨r3, A3, hr3⟩, fun c hc => (List.mem_append.mp hc).elim (fun hc => (hlt c hc)) (fun hc => ((T.2.2.2.2) c hc)), Fy, EB2⟩, gd, m _ sd⟩)
def bSs000 : Road.Bdy := (⟨"java/lang/StringBuilder", "append", "(Ljava/lang/String;)Ljava/lang/StringBuilder;"⟩, jdk_67_method_7_code, 2, (some (.object "java/lang/StringBuilder")), { frames := 4, cells := 0, slots := 0, locals := 62 })
theorem bSs000_d0 : decode bSs000.bs 0 = .ok (.aload_n 0, 1) := by decide +kernel
theorem bSs000_d1 : decode bSs000.bs 1 = .ok (.aload_n 1, 1) := by decide +kernel
theorem bSs000_d2 : decode bSs000.bs 2 = .ok (.invokespecial 29, 3) := by decide +kernel
theorem bSs000_d5 : decode bSs000.bs 5 = .ok (.pop, 1) := by decide +kernel
theorem bSs000_d6 : decode bSs000.bs 6 = .ok (.aload_n 0, 1) := by decide +kernel
theorem bSs000_d7 : decode bSs000.bs 7 = .ok (.areturn, 1) := by decide +kernel
theorem bSs000_pd : parseMethodDescriptor "(Ljava/lang/String;)Ljava/lang/StringBuilder;" = some ⟨[(.object "java/lang/String")], (some (.object "java/lang/StringBuilder"))⟩ := by decide +kernel
theorem bSs000_pn : plainFor bSs000.y = true := plainFor_of_name (show plainName "java/lang/StringBuilder" = true from by first | (simp [plainName, overriddenIn]; done) | decide +kernel)
theorem cSs000 (l : Launch) (Z : State) (a0 : Array Value) (hw : ∀ d ∈ tables_1, d.before a0 Z = true) (n0 : Nat) (hEW : EW Z a0 consts_1) (q b : Addr) (cs : List Int32) (N : Nat) (s sb : Addr) (ds : List Int32) (h0 : Heap) (σ : Addr → Prop) (S : Road.Sb0 Z h0 q b cs N) (T : Road.Str Z h0 s sb ds) (hm : cs.length + ds.length ≤ N) (hcap : N ≤ 34) (nsq : s ≠ q) (nbq : sb ≠ q) (nsb : s ≠ b) (nbb : sb ≠ b) (sb_ : σ b) (sq : σ q) (cp : Int32) (Hc : Sta Z Z.heap Road.SN "COMPACT_STRINGS" "Z" (.int cp)) (hcp : ¬ cp = 0) (fm : Value) (hfm : fm.isRef = true) (Hf : Sta Z Z.heap "jdk/internal/util/Preconditions" "SIOOBE_FORMATTER" "Ljava/util/function/BiFunction;" fm) (H0 : Sta Z Z.heap "java/lang/StringUTF16" "$assertionsDisabled" "Z" (.int 1)) (H1 : Sta Z Z.heap "java/lang/StringUTF16" "HI_BYTE_SHIFT" "I" (.int 0)) (H2 : Sta Z Z.heap "java/lang/StringUTF16" "LO_BYTE_SHIFT" "I" (.int 8)) :
    Road.Con l Z consts_1 n0 false bSs000 [] σ #[(.ref q), (.ref s)] h0 (fun v h2 s2 => v = some (.ref q) ∧ Keep h0 h2 [q, b] ∧ ∃ d, Road.Sb0 Z h2 q d (cs ++ ds) N ∧ (d = b ∨ h0.size ≤ d) ∧ s2 d) := by
  refine Road.Con.of bSs000_pn hEW #[.val (.ref q), .val (.ref s)] (fun m => Road.ent (Road.laid1 rfl (Road.laid1 rfl Road.laid0)) (k := 0) rfl rfl) ?_
  intro D hD
  refine Road.aloadN 0 bSs000_d0 rfl ?_
  refine Road.aloadN 1 bSs000_d1 rfl ?_
  refine Road.callUp (B' := bAs000) (a := q) 2 (argsL := [(.ref s)]) (rest := []) "java/lang/StringBuilder" 0 bSs000_d2 (wI hw 75 rfl) (Road.notFace_sib (wI hw 95 rfl) rfl) (wI hw 76 rfl) (wI hw 77 rfl) (wI hw 55 rfl) (wI hw 79 rfl) (by decide) (by decide) S.1 (cAs000 l Z a0 hw n0 hEW q b cs N s sb ds h0 σ S T hm hcap nsq nbq nsb nbb sb_ sq cp Hc hcp fm hfm Hf H0 H1 H2) (lenOf bAs000_pd rfl) rfl rfl rfl (by decide) (by decide) (ce' := 0) (sl' := 0) rfl rfl (by decide) (by decide) ?_
  rintro _ h_1 σ_2 m_3 ⟨rfl, K_4, d, S2, gd, sd⟩
  refine Road.pop 5 bSs000_d5 ?_
  refine Road.aloadN 6 bSs000_d6 rfl ?_
  exact Road.aret 7 bSs000_d7 (t := (.object "java/lang/StringBuilder")) rfl rfl rfl (by decide) (by decide) (fun σ' m => ⟨rfl, K_4, d, S2, gd, m _ sd⟩)
def bAs001 : Road.Bdy := (⟨"java/lang/AbstractStringBuilder", "append", "(Ljava/lang/String;)Ljava/lang/AbstractStringBuilder;"⟩, jdk_68_method_22_code, 3, (some (.object "java/lang/AbstractStringBuilder")), { frames := 4, cells := 1, slots := 68, locals := 63 })
theorem bAs001_pd : parseMethodDescriptor "(Ljava/lang/String;)Ljava/lang/AbstractStringBuilder;" = some ⟨[(.object "java/lang/String")], (some (.object "java/lang/AbstractStringBuilder"))⟩ := by decide +kernel
theorem bAs001_pn : plainFor bAs001.y = true := plainFor_of_name (show plainName "java/lang/AbstractStringBuilder" = true from by first | (simp [plainName, overriddenIn]; done) | decide +kernel)
theorem cAs001 (l : Launch) (Z : State) (a0 : Array Value) (hw : ∀ d ∈ tables_1, d.before a0 Z = true) (n0 : Nat) (hEW : EW Z a0 consts_1) (q b : Addr) (cs : List Int32) (N : Nat) (s sb : Addr) (ds : List Int32) (h0 : Heap) (σ : Addr → Prop) (S : Road.Sb0 Z h0 q b cs N) (T : Road.Str Z h0 s sb ds) (hm : N < cs.length + ds.length) (hcap : (max (cs.length + ds.length) (2 * N + 2)) ≤ 34) (nsq : s ≠ q) (nbq : sb ≠ q) (nsb : s ≠ b) (nbb : sb ≠ b) (sb_ : σ b) (sq : σ q) (cp : Int32) (Hc : Sta Z Z.heap Road.SN "COMPACT_STRINGS" "Z" (.int cp)) (hcp : ¬ cp = 0) (fm : Value) (hfm : fm.isRef = true) (Hf : Sta Z Z.heap "jdk/internal/util/Preconditions" "SIOOBE_FORMATTER" "Ljava/util/function/BiFunction;" fm) (H0 : Sta Z Z.heap "java/lang/StringUTF16" "$assertionsDisabled" "Z" (.int 1)) (H1 : Sta Z Z.heap "java/lang/StringUTF16" "HI_BYTE_SHIFT" "I" (.int 0)) (H2 : Sta Z Z.heap "java/lang/StringUTF16" "LO_BYTE_SHIFT" "I" (.int 8)) :
    Road.Con l Z consts_1 n0 false bAs001 [] σ #[(.ref q), (.ref s)] h0 (fun v h2 s2 => v = some (.ref q) ∧ Keep h0 h2 [q, b] ∧ ∃ d, Road.Sb0 Z h2 q d (cs ++ ds) (max (cs.length + ds.length) (2 * N + 2)) ∧ (d = b ∨ h0.size ≤ d) ∧ s2 d) := by
  have hN := S.small
  have hle := S.le
  have S0 := S
  obtain ⟨E, Fc, Fv, Fn, ⟨r, Ab, hr⟩, hlt, Fy, EB⟩ := S
  refine Road.Con.of bAs001_pn hEW #[.val (.ref q), .val (.ref s), .unset] (fun m => Road.ent (Road.laid1 rfl (Road.laid1 rfl Road.laid0)) (k := 1) rfl rfl) ?_
  intro D hD
  clear EB
  refine Road.aloadN 0 bAs000_d0 rfl ?_
  refine Road.ifnonnull 1 9 rfl bAs000_d1 rfl (fun hc1 => ?_) (fun q => absurd q (by simp))
  refine Road.aloadN 9 bAs000_d9 rfl ?_
  refine Road.callV (B' := bLen) (a := s) 10 (argsL := []) (rest := []) "java/lang/String" 0 bAs000_d10 (wI hw 80 rfl) (wI hw 81 rfl) (fun vm hz => Road.notFace_sib (args := #[]) (mv (s := D.s.setVm vm) hz (wI hw 83 rfl)) rfl) (wI hw 83 rfl) (wI hw 82 rfl) (wI hw 7 rfl) (wI hw 84 rfl) (by decide) T.1 (cLen l Z a0 hw n0 hEW s sb ds h0 σ T cp Hc hcp) (lenOf bLen_pd rfl) rfl rfl rfl (by decide) (by decide) (ce' := 0) (sl' := 0) rfl rfl (by decide) (by decide) ?_
  rintro _ h_1 σ_2 m_3 ⟨rfl, rfl⟩
  refine Road.Go.weaken (σ' := σ) m_3 (Nat.le_refl _) (Nat.le_refl _) ?_
  refine Road.istoreN 13 #[.val (.ref q), .val (.ref s), .val (.int (Nat.toInt32 ds.length))] bAs000_d13 rfl ?_
  refine Road.aloadN 14 bAs000_d14 rfl ?_
  refine Road.aloadN 15 bAs000_d15 rfl ?_
  refine Road.getfield 16 bAs000_d16 (wI hw 90 rfl) Via.refl Fn ?_
  refine Road.iloadN 19 bAs000_d19 rfl ?_
  refine Road.iadd 20 bAs000_d20 ?_
  refine Road.nameI ?_
  intro z_5 hz_5
  obtain rfl : z_5 = (Nat.toInt32 (cs.length + ds.length)) := by rw [hz_5]; exact Road.add32n _ _
  have ts := T.lt
  have tb := T.ltb
  refine Road.callP (B' := bEg0) (a := q) 21 (argsL := [(.int (Nat.toInt32 (cs.length + ds.length)))]) (rest := []) "java/lang/StringBuilder" 0 bAs000_d21 (wI hw 92 rfl) (wI hw 94 rfl) (wI hw 95 rfl) (wI hw 93 rfl) (wI hw 55 rfl) (wI hw 96 rfl) (by decide) E (cEg0 l Z a0 hw n0 hEW q b cs N (cs.length + ds.length) h0 σ S0 hm hcap sq) (lenOf bEg0_pd rfl) rfl rfl rfl (by decide) (by decide) (ce' := 1) (sl' := 68) rfl rfl (by decide) (by decide) ?_
  rintro _ h_6 σ_7 m_8 ⟨rfl, K_9, b2, S2, g2, s2⟩
  replace T := T.keep K_9 (ninS nsq nin0) (ninS nbq nin0)
  replace sq := m_8 _ sq
  replace sb_ := m_8 _ sb_
  clear E Fc Fv Fn Fy Ab
  have S3 := S2
  obtain ⟨E, Fc, Fv, Fn, -⟩ := S2
  refine Road.aloadN 24 bAs000_d24 rfl ?_
  refine Road.aloadN 25 bAs000_d25 rfl ?_
  refine Road.getfield 26 bAs000_d26 (wI hw 90 rfl) Via.refl Fn ?_
  refine Road.aloadN 29 bAs000_d29 rfl ?_
  refine Road.callP (B' := bPs00) (a := q) 30 (argsL := [(.int (Nat.toInt32 cs.length)), (.ref s)]) (rest := []) "java/lang/StringBuilder" 0 bAs000_d30 (wI hw 97 rfl) (wI hw 99 rfl) (wI hw 100 rfl) (wI hw 98 rfl) (wI hw 55 rfl) (wI hw 101 rfl) (by decide) E (cPs00 l Z a0 hw n0 hEW q b2 cs (max (cs.length + ds.length) (2 * N + 2)) s sb ds h_6 σ_7 S3 T (by omega) hcap nsq nbq (Nat.ne_of_lt (Nat.lt_of_lt_of_le ts g2)) (Nat.ne_of_lt (Nat.lt_of_lt_of_le tb g2)) s2 sq cp Hc hcp fm hfm Hf H0 H1 H2) (lenOf bPs00_pd rfl) rfl rfl rfl (by decide) (by decide) (ce' := 1) (sl' := 68) rfl rfl (by decide) (by decide) ?_
  rintro _ h_12 σ_13 m_14 ⟨rfl, K_15, d, ⟨E2, Fc2, Fv2, Fn2, ⟨r3, A3, hr3⟩, Fy2, EB2⟩, gd, sd⟩
  replace sq := m_14 _ sq
  replace sb_ := m_14 _ sb_
  replace s2 := m_14 _ s2
  replace E := E2
  replace Fc := Fc2
  replace Fv := Fv2
  replace Fn := Fn2
  have Fy := Fy2
  have nqd : q ≠ d := by obtain ⟨c, Ar, -⟩ := A3; exact ne_arr E (wI hw 46 rfl) Ar
  refine Road.aloadN 33 bAs000_d33 rfl ?_
  refine Road.dup 34 bAs000_d34 ?_
  refine Road.getfield 35 bAs000_d35 (wI hw 90 rfl) Via.refl Fn ?_
  refine Road.iloadN 38 bAs000_d38 rfl ?_
  refine Road.iadd 39 bAs000_d39 ?_
  refine Road.nameI ?_
  intro z_19 hz_19
  obtain rfl : z_19 = (Nat.toInt32 (cs ++ ds).length) := by rw [hz_19]; rw [Road.add32n, List.length_append]
  refine Road.putfield 40 bAs000_d40 (wI hw 90 rfl) Via.refl Fn E (Or.inl (wI hw 91 rfl)) (wI hw 46 rfl) (ty := .int) (by decide) rfl rfl sq ?_
  intro h_22 W_20 K_21
  replace Fn := Fn.same W_20
  replace Fc := Fc.other W_20 (Or.inr (slot_ne (Or.inl (wI hw 62 rfl)) (Or.inl (wI hw 91 rfl)) (by decide) (t := .byte) (by decide) (t' := .int) (by decide)))
  replace Fv := Fv.other W_20 (Or.inr (slot_ne (Or.inl (wI hw 60 rfl)) (Or.inl (wI hw 91 rfl)) (by decide) (t := (.array .byte)) (by decide) (t' := .int) (by decide)))
  replace Fy := Fy.other W_20 (Or.inr (slot_ne (Or.inl (wI hw 279 rfl)) (Or.inl (wI hw 91 rfl)) (by decide) (t := .boolean) (by decide) (t' := .int) (by decide)))
  replace E := E.keep K_21
  replace A3 := A3.keep K_21 (ninS (Ne.symm nqd) nin0)
  replace EB2 := EB2.keep K_21
  refine Road.aloadN 43 bAs000_d43 rfl ?_
  exact Road.aret 44 bAs000_d44 (t := (.object "java/lang/AbstractStringBuilder")) rfl rfl rfl (by decide) (by decide) (fun σ' m => ⟨rfl, (Road.keep_sub ((K_9.trans (ws' := [q, b2]) K_15 (by intro x hx; simp only [List.mem_cons, List.not_mem_nil, or_false] at hx; rcases hx with rfl | rfl; exact Or.inl (by simp); exact Or.inr g2)).trans K_21 (by simp)) (by simp)), d, ⟨E, Fc, Fv, Fn, ⟨r3, A3, hr3⟩, fun c hc => (List.mem_append.mp hc).elim (fun hc => (hlt c hc)) (fun hc => ((T.2.2.2.2) c hc)), Fy, EB2⟩, (gd.elim (fun z => Or.inr (by rw [z]; exact g2)) (fun z => Or.inr (Nat.le_trans K_9.1 z))), m _ sd⟩)
def bSs001 : Road.Bdy := (⟨"java/lang/StringBuilder", "append", "(Ljava/lang/String;)Ljava/lang/StringBuilder;"⟩, jdk_67_method_7_code, 2, (some (.object "java/lang/StringBuilder")), { frames := 5, cells := 1, slots := 68, locals := 77 })
theorem bSs001_pd : parseMethodDescriptor "(Ljava/lang/String;)Ljava/lang/StringBuilder;" = some ⟨[(.object "java/lang/String")], (some (.object "java/lang/StringBuilder"))⟩ := by decide +kernel
theorem bSs001_pn : plainFor bSs001.y = true := plainFor_of_name (show plainName "java/lang/StringBuilder" = true from by first | (simp [plainName, overriddenIn]; done) | decide +kernel)
theorem cSs001 (l : Launch) (Z : State) (a0 : Array Value) (hw : ∀ d ∈ tables_1, d.before a0 Z = true) (n0 : Nat) (hEW : EW Z a0 consts_1) (q b : Addr) (cs : List Int32) (N : Nat) (s sb : Addr) (ds : List Int32) (h0 : Heap) (σ : Addr → Prop) (S : Road.Sb0 Z h0 q b cs N) (T : Road.Str Z h0 s sb ds) (hm : N < cs.length + ds.length) (hcap : (max (cs.length + ds.length) (2 * N + 2)) ≤ 34) (nsq : s ≠ q) (nbq : sb ≠ q) (nsb : s ≠ b) (nbb : sb ≠ b) (sb_ : σ b) (sq : σ q) (cp : Int32) (Hc : Sta Z Z.heap Road.SN "COMPACT_STRINGS" "Z" (.int cp)) (hcp : ¬ cp = 0) (fm : Value) (hfm : fm.isRef = true) (Hf : Sta Z Z.heap "jdk/internal/util/Preconditions" "SIOOBE_FORMATTER" "Ljava/util/function/BiFunction;" fm) (H0 : Sta Z Z.heap "java/lang/StringUTF16" "$assertionsDisabled" "Z" (.int 1)) (H1 : Sta Z Z.heap "java/lang/StringUTF16" "HI_BYTE_SHIFT" "I" (.int 0)) (H2 : Sta Z Z.heap "java/lang/StringUTF16" "LO_BYTE_SHIFT" "I" (.int 8)) :
    Road.Con l Z consts_1 n0 false bSs001 [] σ #[(.ref q), (.ref s)] h0 (fun v h2 s2 => v = some (.ref q) ∧ Keep h0 h2 [q, b] ∧ ∃ d, Road.Sb0 Z h2 q d (cs ++ ds) (max (cs.length + ds.length) (2 * N + 2)) ∧ (d = b ∨ h0.size ≤ d) ∧ s2 d) := by
  refine Road.Con.of bSs001_pn hEW #[.val (.ref q), .val (.ref s)] (fun m => Road.ent (Road.laid1 rfl (Road.laid1 rfl Road.laid0)) (k := 0) rfl rfl) ?_
  intro D hD
  refine Road.aloadN 0 bSs000_d0 rfl ?_
  refine Road.aloadN 1 bSs000_d1 rfl ?_
  refine Road.callUp (B' := bAs001) (a := q) 2 (argsL := [(.ref s)]) (rest := []) "java/lang/StringBuilder" 0 bSs000_d2 (wI hw 75 rfl) (Road.notFace_sib (wI hw 95 rfl) rfl) (wI hw 76 rfl) (wI hw 77 rfl) (wI hw 55 rfl) (wI hw 79 rfl) (by decide) (by decide) S.1 (cAs001 l Z a0 hw n0 hEW q b cs N s sb ds h0 σ S T hm hcap nsq nbq nsb nbb sb_ sq cp Hc hcp fm hfm Hf H0 H1 H2) (lenOf bAs001_pd rfl) rfl rfl rfl (by decide) (by decide) (ce' := 1) (sl' := 68) rfl rfl (by decide) (by decide) ?_
  rintro _ h_1 σ_2 m_3 ⟨rfl, K_4, d, S2, gd, sd⟩
  refine Road.pop 5 bSs000_d5 ?_
  refine Road.aloadN 6 bSs000_d6 rfl ?_
  exact Road.aret 7 bSs000_d7 (t := (.object "java/lang/StringBuilder")) rfl rfl rfl (by decide) (by decide) (fun σ' m => ⟨rfl, K_4, d, S2, gd, m _ sd⟩)
def bIf01 : Road.Bdy := (⟨"java/lang/AbstractStringBuilder", "inflateIfNeededFor", "(Ljava/lang/String;)V"⟩, jdk_68_method_71_code, 2, none, { frames := 6, cells := 1, slots := 68, locals := 89 })
theorem bIf01_pd : parseMethodDescriptor "(Ljava/lang/String;)V" = some ⟨[(.object "java/lang/String")], none⟩ := by decide +kernel
theorem bIf01_pn : plainFor bIf01.y = true := plainFor_of_name (show plainName "java/lang/AbstractStringBuilder" = true from by first | (simp [plainName, overriddenIn]; done) | decide +kernel)
theorem cIf01 (l : Launch) (Z : State) (a0 : Array Value) (hw : ∀ d ∈ tables_1, d.before a0 Z = true) (n0 : Nat) (hEW : EW Z a0 consts_1) (q b : Addr) (cs : List Int32) (N : Nat) (s sb : Addr) (ds : List Int32) (h0 : Heap) (σ : Addr → Prop) (S : Road.Sb0 Z h0 q b cs N) (T : Road.Str16 Z h0 s sb ds) (hcap : N ≤ 34) (sq : σ q) (cp : Int32) (Hc : Sta Z Z.heap Road.SN "COMPACT_STRINGS" "Z" (.int cp)) (hcp : ¬ cp = 0) (fm : Value) (hfm : fm.isRef = true) (Hf : Sta Z Z.heap "jdk/internal/util/Preconditions" "SIOOBE_FORMATTER" "Ljava/util/function/BiFunction;" fm) (H0 : Sta Z Z.heap "java/lang/StringUTF16" "$assertionsDisabled" "Z" (.int 1)) (H1 : Sta Z Z.heap "java/lang/StringUTF16" "HI_BYTE_SHIFT" "I" (.int 0)) (H2 : Sta Z Z.heap "java/lang/StringUTF16" "LO_BYTE_SHIFT" "I" (.int 8)) :
    Road.Con l Z consts_1 n0 false bIf01 [] σ #[(.ref q), (.ref s)] h0 (fun v h2 s2 => v = none ∧ Keep h0 h2 [q] ∧ ∃ d, Road.Sb1 Z h2 q d cs N ∧ h0.size ≤ d ∧ s2 d) := by
  have S0 := S
  obtain ⟨E, Fc, -⟩ := S
  refine Road.Con.of bIf01_pn hEW #[.val (.ref q), .val (.ref s)] (fun m => Road.ent (Road.laid1 rfl (Road.laid1 rfl Road.laid0)) (k := 0) rfl rfl) ?_
  intro D hD
  refine Road.getstatic 0 bIf00_d0 (wI hw 58 rfl) Via.refl Hc ?_
  refine Road.if_eq 3 21 bIf00_d3 rfl (fun q => absurd q hcp) (fun hc3 => ?_)
  refine Road.aloadN 6 bIf00_d6 rfl ?_
  refine Road.getfield 7 bIf00_d7 (wI hw 61 rfl) Via.refl Fc ?_
  refine Road.aloadN 10 bIf00_d10 rfl ?_
  refine Road.callV (B' := bCo1) (a := s) 11 (argsL := []) (rest := [(.int (0 : Int32))]) "java/lang/String" 1 bIf00_d11 (wI hw 107 rfl) (wI hw 86 rfl) (fun vm hz => Road.notFace_sib (args := #[]) (mv (s := D.s.setVm vm) hz (wI hw 83 rfl)) rfl) (wI hw 88 rfl) (wI hw 87 rfl) (wI hw 7 rfl) (wI hw 89 rfl) (by decide) T.1 (cCo1 l Z a0 hw n0 hEW s h0 σ T.2.1 cp Hc hcp) (lenOf bCo1_pd rfl) rfl rfl rfl (by decide) (by decide) (ce' := 0) (sl' := 0) rfl rfl (by decide) (by decide) ?_
  rintro _ h_1 σ_2 m_3 ⟨rfl, rfl⟩
  refine Road.Go.weaken (σ' := σ) m_3 (Nat.le_refl _) (Nat.le_refl _) ?_
  refine Road.icmp_eq 14 21 bIf00_d14 rfl (fun q => absurd q (by decide)) (fun hc14 => ?_)
  refine Road.aloadN 17 bIf00_d17 rfl ?_
  refine Road.callP (B' := bAin) (a := q) 18 (argsL := []) (rest := []) "java/lang/StringBuilder" 0 bIf00_d18 (wI hw 246 rfl) (wI hw 248 rfl) (wI hw 249 rfl) (wI hw 247 rfl) (wI hw 55 rfl) (wI hw 250 rfl) (by decide) E (cAin l Z a0 hw n0 hEW q b cs N h0 σ S0 hcap sq cp Hc hcp fm hfm Hf H0 H1 H2) (lenOf bAin_pd rfl) rfl rfl rfl (by decide) (by decide) (ce' := 1) (sl' := 68) rfl rfl (by decide) (by decide) ?_
  rintro _ h_5 σ_6 m_7 ⟨rfl, K_8, d, S2, gd, sd⟩
  exact Road.ret 21 bIf00_d21 rfl (by decide) (by decide) (fun σ' m => ⟨rfl, K_8, d, S2, gd, m _ sd⟩)
def bGb11 : Road.Bdy := (⟨"java/lang/String", "getBytes", "([BIB)V"⟩, jdk_42_method_147_code, 4, none, { frames := 1, cells := 0, slots := 0, locals := 18 })
theorem bGb11_pd : parseMethodDescriptor "([BIB)V" = some ⟨[(.array .byte), .int, .byte], none⟩ := by decide +kernel
theorem bGb11_pn : plainFor bGb11.y = true := plainFor_of_name (show plainName "java/lang/String" = true from by first | (simp [plainName, overriddenIn]; done) | decide +kernel)
theorem cGb11 (l : Launch) (Z : State) (a0 : Array Value) (hw : ∀ d ∈ tables_1, d.before a0 Z = true) (n0 : Nat) (hEW : EW Z a0 consts_1) (s sb d : Addr) (ds : List Int32) (vd : List Value) (i : Nat) (h0 : Heap) (σ : Addr → Prop) (T : Road.Str16 Z h0 s sb ds) (Ad : Road.Ary Z h0 d .byte vd) (hi : (2 * i) + (2 * ds.length) ≤ vd.length) (sd : σ d) (cp : Int32) (Hc : Sta Z Z.heap Road.SN "COMPACT_STRINGS" "Z" (.int cp)) (hcp : ¬ cp = 0) (fm : Value) (hfm : fm.isRef = true) (Hf : Sta Z Z.heap "jdk/internal/util/Preconditions" "SIOOBE_FORMATTER" "Ljava/util/function/BiFunction;" fm) (H0 : Sta Z Z.heap "java/lang/StringUTF16" "$assertionsDisabled" "Z" (.int 1)) (H1 : Sta Z Z.heap "java/lang/StringUTF16" "HI_BYTE_SHIFT" "I" (.int 0)) (H2 : Sta Z Z.heap "java/lang/StringUTF16" "LO_BYTE_SHIFT" "I" (.int 8)) :
    Road.Con l Z consts_1 n0 false bGb11 [] σ #[(.ref s), (.ref d), (.int (Nat.toInt32 i)), (.int (1 : Int32))] h0 (fun v h2 _ => v = none ∧ Keep h0 h2 [d] ∧ Road.Ary Z h2 d .byte (vd.take (2 * i) ++ ((Road.utf ds).drop 0).take (2 * ds.length) ++ vd.drop ((2 * i) + (2 * ds.length)))) := by
  have hsm := Ad.small
  refine Road.Con.of bGb11_pn hEW #[.val (.ref s), .val (.ref d), .val (.int (Nat.toInt32 i)), .val (.int (1 : Int32))] (fun m => Road.ent (Road.laid1 rfl (Road.laid1 rfl (Road.laid1 rfl (Road.laid1 rfl Road.laid0)))) (k := 0) rfl rfl) ?_
  intro D hD
  refine Road.aloadN 0 bGb00_d0 rfl ?_
  refine Road.callV (B' := bCo1) (a := s) 1 (argsL := []) (rest := []) "java/lang/String" 0 bGb00_d1 (wI hw 85 rfl) (wI hw 86 rfl) (fun vm hz => Road.notFace_sib (args := #[]) (mv (s := D.s.setVm vm) hz (wI hw 83 rfl)) rfl) (wI hw 88 rfl) (wI hw 87 rfl) (wI hw 7 rfl) (wI hw 89 rfl) (by decide) T.1 (cCo1 l Z a0 hw n0 hEW s h0 σ T.2.1 cp Hc hcp) (lenOf bCo1_pd rfl) rfl rfl rfl (by decide) (by decide) (ce' := 0) (sl' := 0) rfl rfl (by decide) (by decide) ?_
  rintro _ h_1 σ_2 m_3 ⟨rfl, rfl⟩
  refine Road.Go.weaken (σ' := σ) m_3 (Nat.le_refl _) (Nat.le_refl _) ?_
  refine Road.iloadN 4 bGb00_d4 rfl ?_
  refine Road.icmp_ne 5 28 bGb00_d5 rfl (fun q => absurd q (by decide)) (fun hc5 => ?_)
  refine Road.aloadN 8 bGb00_d8 rfl ?_
  refine Road.getfield 9 bGb00_d9 (wI hw 33 rfl) Via.refl T.2.2.1 ?_
  refine Road.iconst 12 (0 : Int32) bGb00_d12 rfl ?_
  refine Road.aloadN 13 bGb00_d13 rfl ?_
  refine Road.iloadN 14 bGb00_d14 rfl ?_
  refine Road.iloadN 15 bGb00_d15 rfl ?_
  refine Road.ishl 16 bGb00_d16 ?_
  refine Road.nameI ?_
  intro z_5 hz_5
  obtain rfl : z_5 = (Nat.toInt32 (2 * i)) := by rw [hz_5]; exact Road.shl1 _
  refine Road.aloadN 17 bGb00_d17 rfl ?_
  refine Road.getfield 18 bGb00_d18 (wI hw 33 rfl) Via.refl T.2.2.1 ?_
  refine Road.alen 21 (Nat.toInt32 (2 * ds.length)) bGb00_d21 T.2.2.2.1 (n := (2 * ds.length)) (Road.utf_len _) rfl ?_
  refine Road.acopy 22 0 (2 * i) (2 * ds.length) 0 bGb00_d22 (wI hw 113 rfl) (wI hw 116 rfl) (wI hw 114 rfl) (wI hw 115 rfl) T.2.2.2.1 Ad rfl rfl (Road.n32 (by omega)) (Road.n32 (by omega)) (by rw [Road.utf_len]; omega) hi sd rfl rfl (by decide) (by decide) ?_
  intro h_6 K_7 Ae
  refine Road.goto 25 43 bGb00_d25 rfl ?_
  exact Road.ret 43 bGb00_d43 rfl (by decide) (by decide) (fun σ' m => ⟨rfl, K_7, Ae⟩)
def bPs01 : Road.Bdy := (⟨"java/lang/AbstractStringBuilder", "putStringAt", "(ILjava/lang/String;)V"⟩, jdk_68_method_73_code, 3, none, { frames := 7, cells := 1, slots := 68, locals := 102 })
theorem bPs01_pd : parseMethodDescriptor "(ILjava/lang/String;)V" = some ⟨[.int, (.object "java/lang/String")], none⟩ := by decide +kernel
theorem bPs01_pn : plainFor bPs01.y = true := plainFor_of_name (show plainName "java/lang/AbstractStringBuilder" = true from by first | (simp [plainName, overriddenIn]; done) | decide +kernel)
theorem cPs01 (l : Launch) (Z : State) (a0 : Array Value) (hw : ∀ d ∈ tables_1, d.before a0 Z = true) (n0 : Nat) (hEW : EW Z a0 consts_1) (q b : Addr) (cs : List Int32) (N : Nat) (s sb : Addr) (ds : List Int32) (h0 : Heap) (σ : Addr → Prop) (S : Road.Sb0 Z h0 q b cs N) (T : Road.Str16 Z h0 s sb ds) (hm : cs.length + ds.length ≤ N) (hcap : N ≤ 34) (nsq : s ≠ q) (nbq : sb ≠ q) (nsb : s ≠ b) (nbb : sb ≠ b) (sb_ : σ b) (sq : σ q) (cp : Int32) (Hc : Sta Z Z.heap Road.SN "COMPACT_STRINGS" "Z" (.int cp)) (hcp : ¬ cp = 0) (fm : Value) (hfm : fm.isRef = true) (Hf : Sta Z Z.heap "jdk/internal/util/Preconditions" "SIOOBE_FORMATTER" "Ljava/util/function/BiFunction;" fm) (H0 : Sta Z Z.heap "java/lang/StringUTF16" "$assertionsDisabled" "Z" (.int 1)) (H1 : Sta Z Z.heap "java/lang/StringUTF16" "HI_BYTE_SHIFT" "I" (.int 0)) (H2 : Sta Z Z.heap "java/lang/StringUTF16" "LO_BYTE_SHIFT" "I" (.int 8)) :
    Road.Con l Z consts_1 n0 false bPs01 [] σ #[(.ref q), (.int (Nat.toInt32 cs.length)), (.ref s)] h0 (fun v h2 s2 => v = none ∧ Keep h0 h2 [q, b] ∧ ∃ d, (Exa Z h2 q Road.SB ∧ Fld Z h2 q Road.AB "coder" "B" (.int 1) ∧ Fld Z h2 q Road.AB "value" "[B" (.ref d) ∧ Fld Z h2 q Road.AB "count" "I" (.int (Nat.toInt32 cs.length)) ∧ (∃ r, Road.Ary Z h2 d .byte ((Road.utf (cs ++ ds)) ++ r) ∧ (2 * (cs ++ ds).length) + r.length = (2 * N)) ∧ Fld Z h2 q Road.AB "maybeLatin1" "Z" (.int 0) ∧ Exa Z h2 d "[B") ∧ (d = b ∨ h0.size ≤ d) ∧ s2 d) := by
  have hN := S.small
  have hle := S.le
  have S0 := S
  obtain ⟨E, Fc, Fv, Fn, ⟨r, Ab, hr⟩, hlt, Fy, EB⟩ := S
  have nqb : q ≠ b := by obtain ⟨c, Ar, -⟩ := Ab; exact ne_arr E (wI hw 46 rfl) Ar
  refine Road.Con.of bPs01_pn hEW #[.val (.ref q), .val (.int (Nat.toInt32 cs.length)), .val (.ref s)] (fun m => Road.ent (Road.laid1 rfl (Road.laid1 rfl (Road.laid1 rfl Road.laid0))) (k := 0) rfl rfl) ?_
  intro D hD
  refine Road.aloadN 0 bPs00_d0 rfl ?_
  refine Road.aloadN 1 bPs00_d1 rfl ?_
  have ts := T.lt
  have tb := T.ltb
  refine Road.callP (B' := bIf01) (a := q) 2 (argsL := [(.ref s)]) (rest := []) "java/lang/StringBuilder" 0 bPs00_d2 (wI hw 102 rfl) (wI hw 104 rfl) (wI hw 105 rfl) (wI hw 103 rfl) (wI hw 55 rfl) (wI hw 106 rfl) (by decide) E (cIf01 l Z a0 hw n0 hEW q b cs N s sb ds h0 σ S0 T hcap sq cp Hc hcp fm hfm Hf H0 H1 H2) (lenOf bIf01_pd rfl) rfl rfl rfl (by decide) (by decide) (ce' := 1) (sl' := 68) rfl rfl (by decide) (by decide) ?_
  rintro _ h_1 σ_2 m_3 ⟨rfl, K_4, d, S2, gd, sd⟩
  replace T := T.keep K_4 (ninS nsq nin0) (ninS nbq nin0)
  replace sq := m_3 _ sq
  replace sb_ := m_3 _ sb_
  clear E Fc Fv Fn Fy EB Ab
  obtain ⟨E, Fc, Fv, Fn, ⟨r2, Ab, hr2⟩, hlt2, Fy, EB⟩ := S2
  have nqd : q ≠ d := by obtain ⟨c, Ar, -⟩ := Ab; exact ne_arr E (wI hw 46 rfl) Ar
  have nsd : s ≠ d := Nat.ne_of_lt (Nat.lt_of_lt_of_le ts gd)
  have nbd : sb ≠ d := Nat.ne_of_lt (Nat.lt_of_lt_of_le tb gd)
  refine Road.aloadN 5 bPs00_d5 rfl ?_
  refine Road.aloadN 6 bPs00_d6 rfl ?_
  refine Road.getfield 7 bPs00_d7 (wI hw 59 rfl) Via.refl Fv ?_
  refine Road.iloadN 10 bPs00_d10 rfl ?_
  refine Road.aloadN 11 bPs00_d11 rfl ?_
  refine Road.getfield 12 bPs00_d12 (wI hw 61 rfl) Via.refl Fc ?_
  refine Road.callV (B' := bGb11) (a := s) 15 (argsL := [(.ref d), (.int (Nat.toInt32 cs.length)), (.int (1 : Int32))]) (rest := []) "java/lang/String" 0 bPs00_d15 (wI hw 108 rfl) (wI hw 109 rfl) (fun vm hz => Road.notFace_sib (args := #[]) (mv (s := D.s.setVm vm) hz (wI hw 83 rfl)) rfl) (wI hw 111 rfl) (wI hw 110 rfl) (wI hw 7 rfl) (wI hw 112 rfl) (by decide) T.1 (cGb11 l Z a0 hw n0 hEW s sb d ds _ cs.length h_1 σ_2 T Ab (by simp only [List.length_append, List.length_map, Road.utf_len, List.length_replicate, List.length_drop, List.length_cons, List.length_nil]; omega) sd cp Hc hcp fm hfm Hf H0 H1 H2) (lenOf bGb11_pd rfl) rfl rfl rfl (by decide) (by decide) (ce' := 1) (sl' := 68) rfl rfl (by decide) (by decide) ?_
  rintro _ h_7 σ_8 m_9 ⟨rfl, K_10, A2⟩
  replace E := E.keep K_10
  replace Fc := Fc.keep K_10 (ninS nqd nin0)
  replace Fv := Fv.keep K_10 (ninS nqd nin0)
  replace Fn := Fn.keep K_10 (ninS nqd nin0)
  replace Fy := Fy.keep K_10 (ninS nqd nin0)
  replace EB := EB.keep K_10
  replace sq := m_9 _ sq
  replace sb_ := m_9 _ sb_
  replace sd := m_9 _ sd
  rw [Road.utf_put_str _ _ _ (by omega)] at A2
  exact Road.ret 18 bPs00_d18 rfl (by decide) (by decide) (fun σ' m => ⟨rfl, (Road.keep_sub ((K_4.trans K_10 (by intro x hx; cases List.mem_singleton.mp hx; exact Or.inr gd))) (by simp)), d, ⟨E, Fc, Fv, Fn, ⟨_, A2, by simp only [List.length_append, List.length_map, Road.utf_len, List.length_replicate, List.length_drop, List.length_cons, List.length_nil]; omega⟩, Fy, EB⟩, Or.inr gd, m _ sd⟩)
def bAs010 : Road.Bdy := (⟨"java/lang/AbstractStringBuilder", "append", "(Ljava/lang/String;)Ljava/lang/AbstractStringBuilder;"⟩, jdk_68_method_22_code, 3, (some (.object "java/lang/AbstractStringBuilder")), { frames := 8, cells := 1, slots := 68, locals := 117 })
theorem bAs010_pd : parseMethodDescriptor "(Ljava/lang/String;)Ljava/lang/AbstractStringBuilder;" = some ⟨[(.object "java/lang/String")], (some (.object "java/lang/AbstractStringBuilder"))⟩ := by decide +kernel
theorem bAs010_pn : plainFor bAs010.y = true := plainFor_of_name (show plainName "java/lang/AbstractStringBuilder" = true from by first | (simp [plainName, overriddenIn]; done) | decide +kernel)
theorem cAs010 (l : Launch) (Z : State) (a0 : Array Value) (hw : ∀ d ∈ tables_1, d.before a0 Z = true) (n0 : Nat) (hEW : EW Z a0 consts_1) (q b : Addr) (cs : List Int32) (N : Nat) (s sb : Addr) (ds : List Int32) (h0 : Heap) (σ : Addr → Prop) (S : Road.Sb0 Z h0 q b cs N) (T : Road.Str16 Z h0 s sb ds) (hm : cs.length + ds.length ≤ N) (hcap : N ≤ 34) (nsq : s ≠ q) (nbq : sb ≠ q) (nsb : s ≠ b) (nbb : sb ≠ b) (sb_ : σ b) (sq : σ q) (cp : Int32) (Hc : Sta Z Z.heap Road.SN "COMPACT_STRINGS" "Z" (.int cp)) (hcp : ¬ cp = 0) (fm : Value) (hfm : fm.isRef = true) (Hf : Sta Z Z.heap "jdk/internal/util/Preconditions" "SIOOBE_FORMATTER" "Ljava/util/function/BiFunction;" fm) (H0 : Sta Z Z.heap "java/lang/StringUTF16" "$assertionsDisabled" "Z" (.int 1)) (H1 : Sta Z Z.heap "java/lang/StringUTF16" "HI_BYTE_SHIFT" "I" (.int 0)) (H2 : Sta Z Z.heap "java/lang/StringUTF16" "LO_BYTE_SHIFT" "I" (.int 8)) :
    Road.Con l Z consts_1 n0 false bAs010 [] σ #[(.ref q), (.ref s)] h0 (fun v h2 s2 => v = some (.ref q) ∧ Keep h0 h2 [q, b] ∧ ∃ d, Road.Sb1 Z h2 q d (cs ++ ds) N ∧ (d = b ∨ h0.size ≤ d) ∧ s2 d) := by
  have hN := S.small
  have hle := S.le
  have S0 := S
  obtain ⟨E, Fc, Fv, Fn, ⟨r, Ab, hr⟩, hlt, Fy, EB⟩ := S
  refine Road.Con.of bAs010_pn hEW #[.val (.ref q), .val (.ref s), .unset] (fun m => Road.ent (Road.laid1 rfl (Road.laid1 rfl Road.laid0)) (k := 1) rfl rfl) ?_
  intro D hD
  clear EB
  refine Road.aloadN 0 bAs000_d0 rfl ?_
  refine Road.ifnonnull 1 9 rfl bAs000_d1 rfl (fun hc1 => ?_) (fun q => absurd q (by simp))
  refine Road.aloadN 9 bAs000_d9 rfl ?_
  refine Road.callV (B' := bLe1) (a := s) 10 (argsL := []) (rest := []) "java/lang/String" 0 bAs000_d10 (wI hw 80 rfl) (wI hw 81 rfl) (fun vm hz => Road.notFace_sib (args := #[]) (mv (s := D.s.setVm vm) hz (wI hw 83 rfl)) rfl) (wI hw 83 rfl) (wI hw 82 rfl) (wI hw 7 rfl) (wI hw 84 rfl) (by decide) T.1 (cLe1 l Z a0 hw n0 hEW s sb ds h0 σ T cp Hc hcp) (lenOf bLe1_pd rfl) rfl rfl rfl (by decide) (by decide) (ce' := 0) (sl' := 0) rfl rfl (by decide) (by decide) ?_
  rintro _ h_1 σ_2 m_3 ⟨rfl, rfl⟩
  refine Road.Go.weaken (σ' := σ) m_3 (Nat.le_refl _) (Nat.le_refl _) ?_
  refine Road.istoreN 13 #[.val (.ref q), .val (.ref s), .val (.int (Nat.toInt32 ds.length))] bAs000_d13 rfl ?_
  refine Road.aloadN 14 bAs000_d14 rfl ?_
  refine Road.aloadN 15 bAs000_d15 rfl ?_
  refine Road.getfield 16 bAs000_d16 (wI hw 90 rfl) Via.refl Fn ?_
  refine Road.iloadN 19 bAs000_d19 rfl ?_
  refine Road.iadd 20 bAs000_d20 ?_
  refine Road.nameI ?_
  intro z_5 hz_5
  obtain rfl : z_5 = (Nat.toInt32 (cs.length + ds.length)) := by rw [hz_5]; exact Road.add32n _ _
  refine Road.callP (B' := bEa0) (a := q) 21 (argsL := [(.int (Nat.toInt32 (cs.length + ds.length)))]) (rest := []) "java/lang/StringBuilder" 0 bAs000_d21 (wI hw 92 rfl) (wI hw 94 rfl) (wI hw 95 rfl) (wI hw 93 rfl) (wI hw 55 rfl) (wI hw 96 rfl) (by decide) E (cEa0 l Z a0 hw n0 hEW q b cs N (cs.length + ds.length) h0 σ S0 hm) (lenOf bEa0_pd rfl) rfl rfl rfl (by decide) (by decide) (ce' := 0) (sl' := 0) rfl rfl (by decide) (by decide) ?_
  rintro _ h_6 σ_7 m_8 ⟨rfl, rfl⟩
  refine Road.Go.weaken (σ' := σ) m_8 (Nat.le_refl _) (Nat.le_refl _) ?_
  refine Road.aloadN 24 bAs000_d24 rfl ?_
  refine Road.aloadN 25 bAs000_d25 rfl ?_
  refine Road.getfield 26 bAs000_d26 (wI hw 90 rfl) Via.refl Fn ?_
  refine Road.aloadN 29 bAs000_d29 rfl ?_
  refine Road.callP (B' := bPs01) (a := q) 30 (argsL := [(.int (Nat.toInt32 cs.length)), (.ref s)]) (rest := []) "java/lang/StringBuilder" 0 bAs000_d30 (wI hw 97 rfl) (wI hw 99 rfl) (wI hw 100 rfl) (wI hw 98 rfl) (wI hw 55 rfl) (wI hw 101 rfl) (by decide) E (cPs01 l Z a0 hw n0 hEW q b cs N s sb ds h0 σ S0 T hm hcap nsq nbq nsb nbb sb_ sq cp Hc hcp fm hfm Hf H0 H1 H2) (lenOf bPs01_pd rfl) rfl rfl rfl (by decide) (by decide) (ce' := 1) (sl' := 68) rfl rfl (by decide) (by decide) ?_
  rintro _ h_10 σ_11 m_12 ⟨rfl, K_13, d, ⟨E2, Fc2, Fv2, Fn2, ⟨r3, A3, hr3⟩, Fy2, EB2⟩, gd, sd⟩
  replace sq := m_12 _ sq
  replace sb_ := m_12 _ sb_
  replace E := E2
  replace Fc := Fc2
  replace Fv := Fv2
  replace Fn := Fn2
  have Fy := Fy2
  have nqd : q ≠ d := by obtain ⟨c, Ar, -⟩ := A3; exact ne_arr E (wI hw 46 rfl) Ar
  refine Road.aloadN 33 bAs000_d33 rfl ?_
  refine Road.dup 34 bAs000_d34 ?_
  refine Road.getfield 35 bAs000_d35 (wI hw 90 rfl) Via.refl Fn ?_
  refine Road.iloadN 38 bAs000_d38 rfl ?_
  refine Road.iadd 39 bAs000_d39 ?_
  refine Road.nameI ?_
  intro z_16 hz_16
  obtain rfl : z_16 = (Nat.toInt32 (cs ++ ds).length) := by rw [hz_16]; rw [Road.add32n, List.length_append]
  refine Road.putfield 40 bAs000_d40 (wI hw 90 rfl) Via.refl Fn E (Or.inl (wI hw 91 rfl)) (wI hw 46 rfl) (ty := .int) (by decide) rfl rfl sq ?_
  intro h_19 W_17 K_18
  replace Fn := Fn.same W_17
  replace Fc := Fc.other W_17 (Or.inr (slot_ne (Or.inl (wI hw 62 rfl)) (Or.inl (wI hw 91 rfl)) (by decide) (t := .byte) (by decide) (t' := .int) (by decide)))
  replace Fv := Fv.other W_17 (Or.inr (slot_ne (Or.inl (wI hw 60 rfl)) (Or.inl (wI hw 91 rfl)) (by decide) (t := (.array .byte)) (by decide) (t' := .int) (by decide)))
  replace Fy := Fy.other W_17 (Or.inr (slot_ne (Or.inl (wI hw 279 rfl)) (Or.inl (wI hw 91 rfl)) (by decide) (t := .boolean) (by decide) (t' := .int) (by decide)))
  replace E := E.keep K_18
  replace A3 := A3.keep K_18 (ninS (Ne.symm nqd) nin0)
  replace EB2 := EB2.keep K_18
  refine Road.aloadN 43 bAs000_d43 rfl ?_
  exact Road.aret 44 bAs000_d44 (t := (.object "java/lang/AbstractStringBuilder")) rfl rfl rfl (by decide) (by decide) (fun σ' m => ⟨rfl, (K_13.trans K_18 (by simp)), d, ⟨E, Fc, Fv, Fn, ⟨r3, A3, hr3⟩, fun c hc => (List.mem_append.mp hc).elim (fun hc => ⟨(hlt c hc).1, by have := (hlt c hc).2; omega⟩) (fun hc => ((T.2.2.2.2.1) c hc)), Fy, EB2⟩, gd, m _ sd⟩)
def bSs010 : Road.Bdy := (⟨"java/lang/StringBuilder", "append", "(Ljava/lang/String;)Ljava/lang/StringBuilder;"⟩, jdk_67_method_7_code, 2, (some (.object "java/lang/StringBuilder")), { frames := 9, cells := 1, slots := 68, locals := 131 })
theorem bSs010_pd : parseMethodDescriptor "(Ljava/lang/String;)Ljava/lang/StringBuilder;" = some ⟨[(.object "java/lang/String")], (some (.object "java/lang/StringBuilder"))⟩ := by decide +kernel
theorem bSs010_pn : plainFor bSs010.y = true := plainFor_of_name (show plainName "java/lang/StringBuilder" = true from by first | (simp [plainName, overriddenIn]; done) | decide +kernel)
theorem cSs010 (l : Launch) (Z : State) (a0 : Array Value) (hw : ∀ d ∈ tables_1, d.before a0 Z = true) (n0 : Nat) (hEW : EW Z a0 consts_1) (q b : Addr) (cs : List Int32) (N : Nat) (s sb : Addr) (ds : List Int32) (h0 : Heap) (σ : Addr → Prop) (S : Road.Sb0 Z h0 q b cs N) (T : Road.Str16 Z h0 s sb ds) (hm : cs.length + ds.length ≤ N) (hcap : N ≤ 34) (nsq : s ≠ q) (nbq : sb ≠ q) (nsb : s ≠ b) (nbb : sb ≠ b) (sb_ : σ b) (sq : σ q) (cp : Int32) (Hc : Sta Z Z.heap Road.SN "COMPACT_STRINGS" "Z" (.int cp)) (hcp : ¬ cp = 0) (fm : Value) (hfm : fm.isRef = true) (Hf : Sta Z Z.heap "jdk/internal/util/Preconditions" "SIOOBE_FORMATTER" "Ljava/util/function/BiFunction;" fm) (H0 : Sta Z Z.heap "java/lang/StringUTF16" "$assertionsDisabled" "Z" (.int 1)) (H1 : Sta Z Z.heap "java/lang/StringUTF16" "HI_BYTE_SHIFT" "I" (.int 0)) (H2 : Sta Z Z.heap "java/lang/StringUTF16" "LO_BYTE_SHIFT" "I" (.int 8)) :
    Road.Con l Z consts_1 n0 false bSs010 [] σ #[(.ref q), (.ref s)] h0 (fun v h2 s2 => v = some (.ref q) ∧ Keep h0 h2 [q, b] ∧ ∃ d, Road.Sb1 Z h2 q d (cs ++ ds) N ∧ (d = b ∨ h0.size ≤ d) ∧ s2 d) := by
  refine Road.Con.of bSs010_pn hEW #[.val (.ref q), .val (.ref s)] (fun m => Road.ent (Road.laid1 rfl (Road.laid1 rfl Road.laid0)) (k := 0) rfl rfl) ?_
  intro D hD
  refine Road.aloadN 0 bSs000_d0 rfl ?_
  refine Road.aloadN 1 bSs000_d1 rfl ?_
  refine Road.callUp (B' := bAs010) (a := q) 2 (argsL := [(.ref s)]) (rest := []) "java/lang/StringBuilder" 0 bSs000_d2 (wI hw 75 rfl) (Road.notFace_sib (wI hw 95 rfl) rfl) (wI hw 76 rfl) (wI hw 77 rfl) (wI hw 55 rfl) (wI hw 79 rfl) (by decide) (by decide) S.1 (cAs010 l Z a0 hw n0 hEW q b cs N s sb ds h0 σ S T hm hcap nsq nbq nsb nbb sb_ sq cp Hc hcp fm hfm Hf H0 H1 H2) (lenOf bAs010_pd rfl) rfl rfl rfl (by decide) (by decide) (ce' := 1) (sl' := 68) rfl rfl (by decide) (by decide) ?_
  rintro _ h_1 σ_2 m_3 ⟨rfl, K_4, d, S2, gd, sd⟩
  refine Road.pop 5 bSs000_d5 ?_
  refine Road.aloadN 6 bSs000_d6 rfl ?_
  exact Road.aret 7 bSs000_d7 (t := (.object "java/lang/StringBuilder")) rfl rfl rfl (by decide) (by decide) (fun σ' m => ⟨rfl, K_4, d, S2, gd, m _ sd⟩)
def bAs011 : Road.Bdy := (⟨"java/lang/AbstractStringBuilder", "append", "(Ljava/lang/String;)Ljava/lang/AbstractStringBuilder;"⟩, jdk_68_method_22_code, 3, (some (.object "java/lang/AbstractStringBuilder")), { frames := 8, cells := 2, slots := 136, locals := 117 })
theorem bAs011_pd : parseMethodDescriptor "(Ljava/lang/String;)Ljava/lang/AbstractStringBuilder;" = some ⟨[(.object "java/lang/String")], (some (.object "java/lang/AbstractStringBuilder"))⟩ := by decide +kernel
theorem bAs011_pn : plainFor bAs011.y = true := plainFor_of_name (show plainName "java/lang/AbstractStringBuilder" = true from by first | (simp [plainName, overriddenIn]; done) | decide +kernel)
theorem cAs011 (l : Launch) (Z : State) (a0 : Array Value) (hw : ∀ d ∈ tables_1, d.before a0 Z = true) (n0 : Nat) (hEW : EW Z a0 consts_1) (q b : Addr) (cs : List Int32) (N : Nat) (s sb : Addr) (ds : List Int32) (h0 : Heap) (σ : Addr → Prop) (S : Road.Sb0 Z h0 q b cs N) (T : Road.Str16 Z h0 s sb ds) (hm : N < cs.length + ds.length) (hcap : (max (cs.length + ds.length) (2 * N + 2)) ≤ 34) (nsq : s ≠ q) (nbq : sb ≠ q) (nsb : s ≠ b) (nbb : sb ≠ b) (sb_ : σ b) (sq : σ q) (cp : Int32) (Hc : Sta Z Z.heap Road.SN "COMPACT_STRINGS" "Z" (.int cp)) (hcp : ¬ cp = 0) (fm : Value) (hfm : fm.isRef = true) (Hf : Sta Z Z.heap "jdk/internal/util/Preconditions" "SIOOBE_FORMATTER" "Ljava/util/function/BiFunction;" fm) (H0 : Sta Z Z.heap "java/lang/StringUTF16" "$assertionsDisabled" "Z" (.int 1)) (H1 : Sta Z Z.heap "java/lang/StringUTF16" "HI_BYTE_SHIFT" "I" (.int 0)) (H2 : Sta Z Z.heap "java/lang/StringUTF16" "LO_BYTE_SHIFT" "I" (.int 8)) :
    Road.Con l Z consts_1 n0 false bAs011 [] σ #[(.ref q), (.ref s)] h0 (fun v h2 s2 => v = some (.ref q) ∧ Keep h0 h2 [q, b] ∧ ∃ d, Road.Sb1 Z h2 q d (cs ++ ds) (max (cs.length + ds.length) (2 * N + 2)) ∧ (d = b ∨ h0.size ≤ d) ∧ s2 d) := by
  have hN := S.small
  have hle := S.le
  have S0 := S
  obtain ⟨E, Fc, Fv, Fn, ⟨r, Ab, hr⟩, hlt, Fy, EB⟩ := S
  refine Road.Con.of bAs011_pn hEW #[.val (.ref q), .val (.ref s), .unset] (fun m => Road.ent (Road.laid1 rfl (Road.laid1 rfl Road.laid0)) (k := 1) rfl rfl) ?_
  intro D hD
  clear EB
  refine Road.aloadN 0 bAs000_d0 rfl ?_
  refine Road.ifnonnull 1 9 rfl bAs000_d1 rfl (fun hc1 => ?_) (fun q => absurd q (by simp))
  refine Road.aloadN 9 bAs000_d9 rfl ?_
  refine Road.callV (B' := bLe1) (a := s) 10 (argsL := []) (rest := []) "java/lang/String" 0 bAs000_d10 (wI hw 80 rfl) (wI hw 81 rfl) (fun vm hz => Road.notFace_sib (args := #[]) (mv (s := D.s.setVm vm) hz (wI hw 83 rfl)) rfl) (wI hw 83 rfl) (wI hw 82 rfl) (wI hw 7 rfl) (wI hw 84 rfl) (by decide) T.1 (cLe1 l Z a0 hw n0 hEW s sb ds h0 σ T cp Hc hcp) (lenOf bLe1_pd rfl) rfl rfl rfl (by decide) (by decide) (ce' := 0) (sl' := 0) rfl rfl (by decide) (by decide) ?_
  rintro _ h_1 σ_2 m_3 ⟨rfl, rfl⟩
  refine Road.Go.weaken (σ' := σ) m_3 (Nat.le_refl _) (Nat.le_refl _) ?_
  refine Road.istoreN 13 #[.val (.ref q), .val (.ref s), .val (.int (Nat.toInt32 ds.length))] bAs000_d13 rfl ?_
  refine Road.aloadN 14 bAs000_d14 rfl ?_
  refine Road.aloadN 15 bAs000_d15 rfl ?_
  refine Road.getfield 16 bAs000_d16 (wI hw 90 rfl) Via.refl Fn ?_
  refine Road.iloadN 19 bAs000_d19 rfl ?_
  refine Road.iadd 20 bAs000_d20 ?_
  refine Road.nameI ?_
  intro z_5 hz_5
  obtain rfl : z_5 = (Nat.toInt32 (cs.length + ds.length)) := by rw [hz_5]; exact Road.add32n _ _
  have ts := T.lt
  have tb := T.ltb
  refine Road.callP (B' := bEg0) (a := q) 21 (argsL := [(.int (Nat.toInt32 (cs.length + ds.length)))]) (rest := []) "java/lang/StringBuilder" 0 bAs000_d21 (wI hw 92 rfl) (wI hw 94 rfl) (wI hw 95 rfl) (wI hw 93 rfl) (wI hw 55 rfl) (wI hw 96 rfl) (by decide) E (cEg0 l Z a0 hw n0 hEW q b cs N (cs.length + ds.length) h0 σ S0 hm hcap sq) (lenOf bEg0_pd rfl) rfl rfl rfl (by decide) (by decide) (ce' := 1) (sl' := 68) rfl rfl (by decide) (by decide) ?_
  rintro _ h_6 σ_7 m_8 ⟨rfl, K_9, b2, S2, g2, s2⟩
  replace T := T.keep K_9 (ninS nsq nin0) (ninS nbq nin0)
  replace sq := m_8 _ sq
  replace sb_ := m_8 _ sb_
  clear E Fc Fv Fn Fy Ab
  have S3 := S2
  obtain ⟨E, Fc, Fv, Fn, -⟩ := S2
  refine Road.aloadN 24 bAs000_d24 rfl ?_
  refine Road.aloadN 25 bAs000_d25 rfl ?_
  refine Road.getfield 26 bAs000_d26 (wI hw 90 rfl) Via.refl Fn ?_
  refine Road.aloadN 29 bAs000_d29 rfl ?_
  refine Road.callP (B' := bPs01) (a := q) 30 (argsL := [(.int (Nat.toInt32 cs.length)), (.ref s)]) (rest := []) "java/lang/StringBuilder" 0 bAs000_d30 (wI hw 97 rfl) (wI hw 99 rfl) (wI hw 100 rfl) (wI hw 98 rfl) (wI hw 55 rfl) (wI hw 101 rfl) (by decide) E (cPs01 l Z a0 hw n0 hEW q b2 cs (max (cs.length + ds.length) (2 * N + 2)) s sb ds h_6 σ_7 S3 T (by omega) hcap nsq nbq (Nat.ne_of_lt (Nat.lt_of_lt_of_le ts g2)) (Nat.ne_of_lt (Nat.lt_of_lt_of_le tb g2)) s2 sq cp Hc hcp fm hfm Hf H0 H1 H2) (lenOf bPs01_pd rfl) rfl rfl rfl (by decide) (by decide) (ce' := 2) (sl' := 136) rfl rfl (by decide) (by decide) ?_
  rintro _ h_12 σ_13 m_14 ⟨rfl, K_15, d, ⟨E2, Fc2, Fv2, Fn2, ⟨r3, A3, hr3⟩, Fy2, EB2⟩, gd, sd⟩
  replace sq := m_14 _ sq
  replace sb_ := m_14 _ sb_
  replace s2 := m_14 _ s2
  replace E := E2
  replace Fc := Fc2
  replace Fv := Fv2
  replace Fn := Fn2
  have Fy := Fy2
  have nqd : q ≠ d := by obtain ⟨c, Ar, -⟩ := A3; exact ne_arr E (wI hw 46 rfl) Ar
  refine Road.aloadN 33 bAs000_d33 rfl ?_
  refine Road.dup 34 bAs000_d34 ?_
  refine Road.getfield 35 bAs000_d35 (wI hw 90 rfl) Via.refl Fn ?_
  refine Road.iloadN 38 bAs000_d38 rfl ?_
  refine Road.iadd 39 bAs000_d39 ?_
  refine Road.nameI ?_
  intro z_19 hz_19
  obtain rfl : z_19 = (Nat.toInt32 (cs ++ ds).length) := by rw [hz_19]; rw [Road.add32n, List.length_append]
  refine Road.putfield 40 bAs000_d40 (wI hw 90 rfl) Via.refl Fn E (Or.inl (wI hw 91 rfl)) (wI hw 46 rfl) (ty := .int) (by decide) rfl rfl sq ?_
  intro h_22 W_20 K_21
  replace Fn := Fn.same W_20
  replace Fc := Fc.other W_20 (Or.inr (slot_ne (Or.inl (wI hw 62 rfl)) (Or.inl (wI hw 91 rfl)) (by decide) (t := .byte) (by decide) (t' := .int) (by decide)))
  replace Fv := Fv.other W_20 (Or.inr (slot_ne (Or.inl (wI hw 60 rfl)) (Or.inl (wI hw 91 rfl)) (by decide) (t := (.array .byte)) (by decide) (t' := .int) (by decide)))
  replace Fy := Fy.other W_20 (Or.inr (slot_ne (Or.inl (wI hw 279 rfl)) (Or.inl (wI hw 91 rfl)) (by decide) (t := .boolean) (by decide) (t' := .int) (by decide)))
  replace E := E.keep K_21
  replace A3 := A3.keep K_21 (ninS (Ne.symm nqd) nin0)
  replace EB2 := EB2.keep K_21
  refine Road.aloadN 43 bAs000_d43 rfl ?_
  exact Road.aret 44 bAs000_d44 (t := (.object "java/lang/AbstractStringBuilder")) rfl rfl rfl (by decide) (by decide) (fun σ' m => ⟨rfl, (Road.keep_sub ((K_9.trans (ws' := [q, b2]) K_15 (by intro x hx; simp only [List.mem_cons, List.not_mem_nil, or_false] at hx; rcases hx with rfl | rfl; exact Or.inl (by simp); exact Or.inr g2)).trans K_21 (by simp)) (by simp)), d, ⟨E, Fc, Fv, Fn, ⟨r3, A3, hr3⟩, fun c hc => (List.mem_append.mp hc).elim (fun hc => ⟨(hlt c hc).1, by have := (hlt c hc).2; omega⟩) (fun hc => ((T.2.2.2.2.1) c hc)), Fy, EB2⟩, (gd.elim (fun z => Or.inr (by rw [z]; exact g2)) (fun z => Or.inr (Nat.le_trans K_9.1 z))), m _ sd⟩)
def bSs011 : Road.Bdy := (⟨"java/lang/StringBuilder", "append", "(Ljava/lang/String;)Ljava/lang/StringBuilder;"⟩, jdk_67_method_7_code, 2, (some (.object "java/lang/StringBuilder")), { frames := 9, cells := 2, slots := 136, locals := 131 })
theorem bSs011_pd : parseMethodDescriptor "(Ljava/lang/String;)Ljava/lang/StringBuilder;" = some ⟨[(.object "java/lang/String")], (some (.object "java/lang/StringBuilder"))⟩ := by decide +kernel
theorem bSs011_pn : plainFor bSs011.y = true := plainFor_of_name (show plainName "java/lang/StringBuilder" = true from by first | (simp [plainName, overriddenIn]; done) | decide +kernel)
theorem cSs011 (l : Launch) (Z : State) (a0 : Array Value) (hw : ∀ d ∈ tables_1, d.before a0 Z = true) (n0 : Nat) (hEW : EW Z a0 consts_1) (q b : Addr) (cs : List Int32) (N : Nat) (s sb : Addr) (ds : List Int32) (h0 : Heap) (σ : Addr → Prop) (S : Road.Sb0 Z h0 q b cs N) (T : Road.Str16 Z h0 s sb ds) (hm : N < cs.length + ds.length) (hcap : (max (cs.length + ds.length) (2 * N + 2)) ≤ 34) (nsq : s ≠ q) (nbq : sb ≠ q) (nsb : s ≠ b) (nbb : sb ≠ b) (sb_ : σ b) (sq : σ q) (cp : Int32) (Hc : Sta Z Z.heap Road.SN "COMPACT_STRINGS" "Z" (.int cp)) (hcp : ¬ cp = 0) (fm : Value) (hfm : fm.isRef = true) (Hf : Sta Z Z.heap "jdk/internal/util/Preconditions" "SIOOBE_FORMATTER" "Ljava/util/function/BiFunction;" fm) (H0 : Sta Z Z.heap "java/lang/StringUTF16" "$assertionsDisabled" "Z" (.int 1)) (H1 : Sta Z Z.heap "java/lang/StringUTF16" "HI_BYTE_SHIFT" "I" (.int 0)) (H2 : Sta Z Z.heap "java/lang/StringUTF16" "LO_BYTE_SHIFT" "I" (.int 8)) :
    Road.Con l Z consts_1 n0 false bSs011 [] σ #[(.ref q), (.ref s)] h0 (fun v h2 s2 => v = some (.ref q) ∧ Keep h0 h2 [q, b] ∧ ∃ d, Road.Sb1 Z h2 q d (cs ++ ds) (max (cs.length + ds.length) (2 * N + 2)) ∧ (d = b ∨ h0.size ≤ d) ∧ s2 d) := by
  refine Road.Con.of bSs011_pn hEW #[.val (.ref q), .val (.ref s)] (fun m => Road.ent (Road.laid1 rfl (Road.laid1 rfl Road.laid0)) (k := 0) rfl rfl) ?_
  intro D hD
  refine Road.aloadN 0 bSs000_d0 rfl ?_
  refine Road.aloadN 1 bSs000_d1 rfl ?_
  refine Road.callUp (B' := bAs011) (a := q) 2 (argsL := [(.ref s)]) (rest := []) "java/lang/StringBuilder" 0 bSs000_d2 (wI hw 75 rfl) (Road.notFace_sib (wI hw 95 rfl) rfl) (wI hw 76 rfl) (wI hw 77 rfl) (wI hw 55 rfl) (wI hw 79 rfl) (by decide) (by decide) S.1 (cAs011 l Z a0 hw n0 hEW q b cs N s sb ds h0 σ S T hm hcap nsq nbq nsb nbb sb_ sq cp Hc hcp fm hfm Hf H0 H1 H2) (lenOf bAs011_pd rfl) rfl rfl rfl (by decide) (by decide) (ce' := 2) (sl' := 136) rfl rfl (by decide) (by decide) ?_
  rintro _ h_1 σ_2 m_3 ⟨rfl, K_4, d, S2, gd, sd⟩
  refine Road.pop 5 bSs000_d5 ?_
  refine Road.aloadN 6 bSs000_d6 rfl ?_
  exact Road.aret 7 bSs000_d7 (t := (.object "java/lang/StringBuilder")) rfl rfl rfl (by decide) (by decide) (fun σ' m => ⟨rfl, K_4, d, S2, gd, m _ sd⟩)
def bIf10 : Road.Bdy := (⟨"java/lang/AbstractStringBuilder", "inflateIfNeededFor", "(Ljava/lang/String;)V"⟩, jdk_68_method_71_code, 2, none, { frames := 2, cells := 0, slots := 0, locals := 25 })
theorem bIf10_pd : parseMethodDescriptor "(Ljava/lang/String;)V" = some ⟨[(.object "java/lang/String")], none⟩ := by decide +kernel
theorem bIf10_pn : plainFor bIf10.y = true := plainFor_of_name (show plainName "java/lang/AbstractStringBuilder" = true from by first | (simp [plainName, overriddenIn]; done) | decide +kernel)
theorem cIf10 (l : Launch) (Z : State) (a0 : Array Value) (hw : ∀ d ∈ tables_1, d.before a0 Z = true) (n0 : Nat) (hEW : EW Z a0 consts_1) (q b : Addr) (cs : List Int32) (N : Nat) (s sb : Addr) (ds : List Int32) (h0 : Heap) (σ : Addr → Prop) (S : Road.Sb1 Z h0 q b cs N) (T : Road.Str Z h0 s sb ds) (cp : Int32) (Hc : Sta Z Z.heap Road.SN "COMPACT_STRINGS" "Z" (.int cp)) (hcp : ¬ cp = 0) (fm : Value) (hfm : fm.isRef = true) (Hf : Sta Z Z.heap "jdk/internal/util/Preconditions" "SIOOBE_FORMATTER" "Ljava/util/function/BiFunction;" fm) (H0 : Sta Z Z.heap "java/lang/StringUTF16" "$assertionsDisabled" "Z" (.int 1)) (H1 : Sta Z Z.heap "java/lang/StringUTF16" "HI_BYTE_SHIFT" "I" (.int 0)) (H2 : Sta Z Z.heap "java/lang/StringUTF16" "LO_BYTE_SHIFT" "I" (.int 8)) :
    Road.Con l Z consts_1 n0 false bIf10 [] σ #[(.ref q), (.ref s)] h0 (fun v h2 s2 => v = none ∧ h0 = h2) := by
  have S0 := S
  obtain ⟨E, Fc, -⟩ := S
  refine Road.Con.of bIf10_pn hEW #[.val (.ref q), .val (.ref s)] (fun m => Road.ent (Road.laid1 rfl (Road.laid1 rfl Road.laid0)) (k := 0) rfl rfl) ?_
  intro D hD
  refine Road.getstatic 0 bIf00_d0 (wI hw 58 rfl) Via.refl Hc ?_
  refine Road.if_eq 3 21 bIf00_d3 rfl (fun q => absurd q hcp) (fun hc3 => ?_)
  refine Road.aloadN 6 bIf00_d6 rfl ?_
  refine Road.getfield 7 bIf00_d7 (wI hw 61 rfl) Via.refl Fc ?_
  refine Road.aloadN 10 bIf00_d10 rfl ?_
  refine Road.callV (B' := bCod) (a := s) 11 (argsL := []) (rest := [(.int (1 : Int32))]) "java/lang/String" 1 bIf00_d11 (wI hw 107 rfl) (wI hw 86 rfl) (fun vm hz => Road.notFace_sib (args := #[]) (mv (s := D.s.setVm vm) hz (wI hw 83 rfl)) rfl) (wI hw 88 rfl) (wI hw 87 rfl) (wI hw 7 rfl) (wI hw 89 rfl) (by decide) T.1 (cCod l Z a0 hw n0 hEW s h0 σ T.2.1 cp Hc hcp) (lenOf bCod_pd rfl) rfl rfl rfl (by decide) (by decide) (ce' := 0) (sl' := 0) rfl rfl (by decide) (by decide) ?_
  rintro _ h_1 σ_2 m_3 ⟨rfl, rfl⟩
  refine Road.Go.weaken (σ' := σ) m_3 (Nat.le_refl _) (Nat.le_refl _) ?_
  refine Road.icmp_eq 14 21 bIf00_d14 rfl (fun q => absurd q (by decide)) (fun hc14 => ?_)
  refine Road.aloadN 17 bIf00_d17 rfl ?_
  refine Road.callP (B' := bAi1) (a := q) 18 (argsL := []) (rest := []) "java/lang/StringBuilder" 0 bIf00_d18 (wI hw 246 rfl) (wI hw 248 rfl) (wI hw 249 rfl) (wI hw 247 rfl) (wI hw 55 rfl) (wI hw 250 rfl) (by decide) E (cAi1 l Z a0 hw n0 hEW q h0 σ E Fc cp Hc hcp) (lenOf bAi1_pd rfl) rfl rfl rfl (by decide) (by decide) (ce' := 0) (sl' := 0) rfl rfl (by decide) (by decide) ?_
  rintro _ h_5 σ_6 m_7 ⟨rfl, rfl⟩
  refine Road.Go.weaken (σ' := σ) m_7 (Nat.le_refl _) (Nat.le_refl _) ?_
  exact Road.ret 21 bIf00_d21 rfl (by decide) (by decide) (fun σ' m => ⟨rfl, rfl⟩)
def bGb10 : Road.Bdy := (⟨"java/lang/String", "getBytes", "([BIB)V"⟩, jdk_42_method_147_code, 4, none, { frames := 5, cells := 0, slots := 0, locals := 76 })
theorem bGb10_pd : parseMethodDescriptor "([BIB)V" = some ⟨[(.array .byte), .int, .byte], none⟩ := by decide +kernel
theorem bGb10_pn : plainFor bGb10.y = true := plainFor_of_name (show plainName "java/lang/String" = true from by first | (simp [plainName, overriddenIn]; done) | decide +kernel)
theorem cGb10 (l : Launch) (Z : State) (a0 : Array Value) (hw : ∀ d ∈ tables_1, d.before a0 Z = true) (n0 : Nat) (hEW : EW Z a0 consts_1) (s sb d : Addr) (ds : List Int32) (pre : List Int32) (r : List Value) (n : Nat) (h0 : Heap) (σ : Addr → Prop) (T : Road.Str Z h0 s sb ds) (Ad : Road.Ary Z h0 d .byte (Road.utf pre ++ r)) (hr : 2 * pre.length + r.length = 2 * n) (hl : pre.length + ds.length ≤ n) (nsd : sb ≠ d) (sd : σ d) (cp : Int32) (Hc : Sta Z Z.heap Road.SN "COMPACT_STRINGS" "Z" (.int cp)) (hcp : ¬ cp = 0) (fm : Value) (hfm : fm.isRef = true) (Hf : Sta Z Z.heap "jdk/internal/util/Preconditions" "SIOOBE_FORMATTER" "Ljava/util/function/BiFunction;" fm) (H0 : Sta Z Z.heap "java/lang/StringUTF16" "$assertionsDisabled" "Z" (.int 1)) (H1 : Sta Z Z.heap "java/lang/StringUTF16" "HI_BYTE_SHIFT" "I" (.int 0)) (H2 : Sta Z Z.heap "java/lang/StringUTF16" "LO_BYTE_SHIFT" "I" (.int 8)) :
    Road.Con l Z consts_1 n0 false bGb10 [] σ #[(.ref s), (.ref d), (.int (Nat.toInt32 pre.length)), (.int (1 : Int32))] h0 (fun v h2 _ => v = none ∧ Keep h0 h2 [d] ∧ Road.Ary Z h2 d .byte (Road.utf (pre ++ ds) ++ r.drop (2 * ds.length))) := by
  have hsm := Ad.small
  refine Road.Con.of bGb10_pn hEW #[.val (.ref s), .val (.ref d), .val (.int (Nat.toInt32 pre.length)), .val (.int (1 : Int32))] (fun m => Road.ent (Road.laid1 rfl (Road.laid1 rfl (Road.laid1 rfl (Road.laid1 rfl Road.laid0)))) (k := 0) rfl rfl) ?_
  intro D hD
  refine Road.aloadN 0 bGb00_d0 rfl ?_
  refine Road.callV (B' := bCod) (a := s) 1 (argsL := []) (rest := []) "java/lang/String" 0 bGb00_d1 (wI hw 85 rfl) (wI hw 86 rfl) (fun vm hz => Road.notFace_sib (args := #[]) (mv (s := D.s.setVm vm) hz (wI hw 83 rfl)) rfl) (wI hw 88 rfl) (wI hw 87 rfl) (wI hw 7 rfl) (wI hw 89 rfl) (by decide) T.1 (cCod l Z a0 hw n0 hEW s h0 σ T.2.1 cp Hc hcp) (lenOf bCod_pd rfl) rfl rfl rfl (by decide) (by decide) (ce' := 0) (sl' := 0) rfl rfl (by decide) (by decide) ?_
  rintro _ h_1 σ_2 m_3 ⟨rfl, rfl⟩
  refine Road.Go.weaken (σ' := σ) m_3 (Nat.le_refl _) (Nat.le_refl _) ?_
  refine Road.iloadN 4 bGb00_d4 rfl ?_
  refine Road.icmp_ne 5 28 bGb00_d5 rfl (fun hc5 => ?_) (fun q => absurd q (by decide))
  refine Road.aloadN 28 bGb00_d28 rfl ?_
  refine Road.getfield 29 bGb00_d29 (wI hw 33 rfl) Via.refl T.2.2.1 ?_
  refine Road.iconst 32 (0 : Int32) bGb00_d32 rfl ?_
  refine Road.aloadN 33 bGb00_d33 rfl ?_
  refine Road.iloadN 34 bGb00_d34 rfl ?_
  refine Road.aloadN 35 bGb00_d35 rfl ?_
  refine Road.getfield 36 bGb00_d36 (wI hw 33 rfl) Via.refl T.2.2.1 ?_
  refine Road.alen 39 (Nat.toInt32 ds.length) bGb00_d39 T.2.2.2.1 (n := ds.length) (List.length_map _) rfl ?_
  refine Road.callS (B' := bLin) 40 (argsL := [(.ref sb), (.int (0 : Int32)), (.ref d), (.int (Nat.toInt32 pre.length)), (.int (Nat.toInt32 ds.length))]) (rest := []) 0 bGb00_d40 (wI hw 277 rfl) (wI hw 253 rfl) (wI hw 138 rfl) (wI hw 254 rfl) (by decide) (cLin l Z a0 hw n0 hEW sb d pre ds [] r n h0 σ (by rw [List.append_nil]; exact T.2.2.2.1) Ad T.2.2.2.2 hr hl nsd sd fm hfm Hf H0 H1 H2) (lenOf bLin_pd rfl) rfl rfl rfl (by decide) (by decide) (ce' := 0) (sl' := 0) rfl rfl (by decide) (by decide) ?_
  rintro _ h_5 σ_6 m_7 ⟨rfl, K_8, Ae⟩
  replace sd := m_7 _ sd
  exact Road.ret 43 bGb00_d43 rfl (by decide) (by decide) (fun σ' m => ⟨rfl, K_8, Ae⟩)
def bPs10 : Road.Bdy := (⟨"java/lang/AbstractStringBuilder", "putStringAt", "(ILjava/lang/String;)V"⟩, jdk_68_method_73_code, 3, none, { frames := 6, cells := 0, slots := 0, locals := 91 })
theorem bPs10_pd : parseMethodDescriptor "(ILjava/lang/String;)V" = some ⟨[.int, (.object "java/lang/String")], none⟩ := by decide +kernel
theorem bPs10_pn : plainFor bPs10.y = true := plainFor_of_name (show plainName "java/lang/AbstractStringBuilder" = true from by first | (simp [plainName, overriddenIn]; done) | decide +kernel)
theorem cPs10 (l : Launch) (Z : State) (a0 : Array Value) (hw : ∀ d ∈ tables_1, d.before a0 Z = true) (n0 : Nat) (hEW : EW Z a0 consts_1) (q b : Addr) (cs : List Int32) (N : Nat) (s sb : Addr) (ds : List Int32) (h0 : Heap) (σ : Addr → Prop) (S : Road.Sb1 Z h0 q b cs N) (T : Road.Str Z h0 s sb ds) (hm : cs.length + ds.length ≤ N) (hcap : N ≤ 34) (nsq : s ≠ q) (nbq : sb ≠ q) (nsb : s ≠ b) (nbb : sb ≠ b) (sb_ : σ b) (sq : σ q) (cp : Int32) (Hc : Sta Z Z.heap Road.SN "COMPACT_STRINGS" "Z" (.int cp)) (hcp : ¬ cp = 0) (fm : Value) (hfm : fm.isRef = true) (Hf : Sta Z Z.heap "jdk/internal/util/Preconditions" "SIOOBE_FORMATTER" "Ljava/util/function/BiFunction;" fm) (H0 : Sta Z Z.heap "java/lang/StringUTF16" "$assertionsDisabled" "Z" (.int 1)) (H1 : Sta Z Z.heap "java/lang/StringUTF16" "HI_BYTE_SHIFT" "I" (.int 0)) (H2 : Sta Z Z.heap "java/lang/StringUTF16" "LO_BYTE_SHIFT" "I" (.int 8)) :
    Road.Con l Z consts_1 n0 false bPs10 [] σ #[(.ref q), (.int (Nat.toInt32 cs.length)), (.ref s)] h0 (fun v h2 s2 => v = none ∧ Keep h0 h2 [q, b] ∧ ∃ d, (Exa Z h2 q Road.SB ∧ Fld Z h2 q Road.AB "coder" "B" (.int 1) ∧ Fld Z h2 q Road.AB "value" "[B" (.ref d) ∧ Fld Z h2 q Road.AB "count" "I" (.int (Nat.toInt32 cs.length)) ∧ (∃ r, Road.Ary Z h2 d .byte ((Road.utf (cs ++ ds)) ++ r) ∧ (2 * (cs ++ ds).length) + r.length = (2 * N)) ∧ Fld Z h2 q Road.AB "maybeLatin1" "Z" (.int 0) ∧ Exa Z h2 d "[B") ∧ (d = b ∨ h0.size ≤ d) ∧ s2 d) := by
  have hN := S.small
  have hle := S.le
  have S0 := S
  obtain ⟨E, Fc, Fv, Fn, ⟨r, Ab, hr⟩, hlt, Fy, EB⟩ := S
  have nqb : q ≠ b := by obtain ⟨c, Ar, -⟩ := Ab; exact ne_arr E (wI hw 46 rfl) Ar
  refine Road.Con.of bPs10_pn hEW #[.val (.ref q), .val (.int (Nat.toInt32 cs.length)), .val (.ref s)] (fun m => Road.ent (Road.laid1 rfl (Road.laid1 rfl (Road.laid1 rfl Road.laid0))) (k := 0) rfl rfl) ?_
  intro D hD
  refine Road.aloadN 0 bPs00_d0 rfl ?_
  refine Road.aloadN 1 bPs00_d1 rfl ?_
  refine Road.callP (B' := bIf10) (a := q) 2 (argsL := [(.ref s)]) (rest := []) "java/lang/StringBuilder" 0 bPs00_d2 (wI hw 102 rfl) (wI hw 104 rfl) (wI hw 105 rfl) (wI hw 103 rfl) (wI hw 55 rfl) (wI hw 106 rfl) (by decide) E (cIf10 l Z a0 hw n0 hEW q b cs N s sb ds h0 σ S0 T cp Hc hcp fm hfm Hf H0 H1 H2) (lenOf bIf10_pd rfl) rfl rfl rfl (by decide) (by decide) (ce' := 0) (sl' := 0) rfl rfl (by decide) (by decide) ?_
  rintro _ h_1 σ_2 m_3 ⟨rfl, rfl⟩
  refine Road.Go.weaken (σ' := σ) m_3 (Nat.le_refl _) (Nat.le_refl _) ?_
  refine Road.aloadN 5 bPs00_d5 rfl ?_
  refine Road.aloadN 6 bPs00_d6 rfl ?_
  refine Road.getfield 7 bPs00_d7 (wI hw 59 rfl) Via.refl Fv ?_
  refine Road.iloadN 10 bPs00_d10 rfl ?_
  refine Road.aloadN 11 bPs00_d11 rfl ?_
  refine Road.getfield 12 bPs00_d12 (wI hw 61 rfl) Via.refl Fc ?_
  refine Road.callV (B' := bGb10) (a := s) 15 (argsL := [(.ref b), (.int (Nat.toInt32 cs.length)), (.int (1 : Int32))]) (rest := []) "java/lang/String" 0 bPs00_d15 (wI hw 108 rfl) (wI hw 109 rfl) (fun vm hz => Road.notFace_sib (args := #[]) (mv (s := D.s.setVm vm) hz (wI hw 83 rfl)) rfl) (wI hw 111 rfl) (wI hw 110 rfl) (wI hw 7 rfl) (wI hw 112 rfl) (by decide) T.1 (cGb10 l Z a0 hw n0 hEW s sb b ds cs r N h0 σ T Ab hr hm nbb sb_ cp Hc hcp fm hfm Hf H0 H1 H2) (lenOf bGb10_pd rfl) rfl rfl rfl (by decide) (by decide) (ce' := 0) (sl' := 0) rfl rfl (by decide) (by decide) ?_
  rintro _ h_5 σ_6 m_7 ⟨rfl, K_8, A2⟩
  replace E := E.keep K_8
  replace Fc := Fc.keep K_8 (ninS nqb nin0)
  replace Fv := Fv.keep K_8 (ninS nqb nin0)
  replace Fn := Fn.keep K_8 (ninS nqb nin0)
  replace Fy := Fy.keep K_8 (ninS nqb nin0)
  replace EB := EB.keep K_8
  replace sq := m_7 _ sq
  replace sb_ := m_7 _ sb_
  exact Road.ret 18 bPs00_d18 rfl (by decide) (by decide) (fun σ' m => ⟨rfl, (Road.keep_sub K_8 (by simp)), b, ⟨E, Fc, Fv, Fn, ⟨_, A2, by simp only [List.length_append, List.length_map, Road.utf_len, List.length_replicate, List.length_drop, List.length_cons, List.length_nil]; omega⟩, Fy, EB⟩, Or.inl rfl, m _ sb_⟩)
def bAs100 : Road.Bdy := (⟨"java/lang/AbstractStringBuilder", "append", "(Ljava/lang/String;)Ljava/lang/AbstractStringBuilder;"⟩, jdk_68_method_22_code, 3, (some (.object "java/lang/AbstractStringBuilder")), { frames := 7, cells := 0, slots := 0, locals := 106 })
theorem bAs100_pd : parseMethodDescriptor "(Ljava/lang/String;)Ljava/lang/AbstractStringBuilder;" = some ⟨[(.object "java/lang/String")], (some (.object "java/lang/AbstractStringBuilder"))⟩ := by decide +kernel
theorem bAs100_pn : plainFor bAs100.y = true := plainFor_of_name (show plainName "java/lang/AbstractStringBuilder" = true from by first | (simp [plainName, overriddenIn]; done) | decide +kernel)
theorem cAs100 (l : Launch) (Z : State) (a0 : Array Value) (hw : ∀ d ∈ tables_1, d.before a0 Z = true) (n0 : Nat) (hEW : EW Z a0 consts_1) (q b : Addr) (cs : List Int32) (N : Nat) (s sb : Addr) (ds : List Int32) (h0 : Heap) (σ : Addr → Prop) (S : Road.Sb1 Z h0 q b cs N) (T : Road.Str Z h0 s sb ds) (hm : cs.length + ds.length ≤ N) (hcap : N ≤ 34) (nsq : s ≠ q) (nbq : sb ≠ q) (nsb : s ≠ b) (nbb : sb ≠ b) (sb_ : σ b) (sq : σ q) (cp : Int32) (Hc : Sta Z Z.heap Road.SN "COMPACT_STRINGS" "Z" (.int cp)) (hcp : ¬ cp = 0) (fm : Value) (hfm : fm.isRef = true) (Hf : Sta Z Z.heap "jdk/internal/util/Preconditions" "SIOOBE_FORMATTER" "Ljava/util/function/BiFunction;" fm) (H0 : Sta Z Z.heap "java/lang/StringUTF16" "$assertionsDisabled" "Z" (.int 1)) (H1 : Sta Z Z.heap "java/lang/StringUTF16" "HI_BYTE_SHIFT" "I" (.int 0)) (H2 : Sta Z Z.heap "java/lang/StringUTF16" "LO_BYTE_SHIFT" "I" (.int 8)) :
    Road.Con l Z consts_1 n0 false bAs100 [] σ #[(.ref q), (.ref s)] h0 (fun v h2 s2 => v = some (.ref q) ∧ Keep h0 h2 [q, b] ∧ ∃ d, Road.Sb1 Z h2 q d (cs ++ ds) N ∧ (d = b ∨ h0.size ≤ d) ∧ s2 d) := by
  have hN := S.small
  have hle := S.le
  have S0 := S
  obtain ⟨E, Fc, Fv, Fn, ⟨r, Ab, hr⟩, hlt, Fy, EB⟩ := S
  refine Road.Con.of bAs100_pn hEW #[.val (.ref q), .val (.ref s), .unset] (fun m => Road.ent (Road.laid1 rfl (Road.laid1 rfl Road.laid0)) (k := 1) rfl rfl) ?_
  intro D hD
  clear EB
  refine Road.aloadN 0 bAs000_d0 rfl ?_
  refine Road.ifnonnull 1 9 rfl bAs000_d1 rfl (fun hc1 => ?_) (fun q => absurd q (by simp))
  refine Road.aloadN 9 bAs000_d9 rfl ?_
  refine Road.callV (B' := bLen) (a := s) 10 (argsL := []) (rest := []) "java/lang/String" 0 bAs000_d10 (wI hw 80 rfl) (wI hw 81 rfl) (fun vm hz => Road.notFace_sib (args := #[]) (mv (s := D.s.setVm vm) hz (wI hw 83 rfl)) rfl) (wI hw 83 rfl) (wI hw 82 rfl) (wI hw 7 rfl) (wI hw 84 rfl) (by decide) T.1 (cLen l Z a0 hw n0 hEW s sb ds h0 σ T cp Hc hcp) (lenOf bLen_pd rfl) rfl rfl rfl (by decide) (by decide) (ce' := 0) (sl' := 0) rfl rfl (by decide) (by decide) ?_
  rintro _ h_1 σ_2 m_3 ⟨rfl, rfl⟩
  refine Road.Go.weaken (σ' := σ) m_3 (Nat.le_refl _) (Nat.le_refl _) ?_
  refine Road.istoreN 13 #[.val (.ref q), .val (.ref s), .val (.int (Nat.toInt32 ds.length))] bAs000_d13 rfl ?_
  refine Road.aloadN 14 bAs000_d14 rfl ?_
  refine Road.aloadN 15 bAs000_d15 rfl ?_
  refine Road.getfield 16 bAs000_d16 (wI hw 90 rfl) Via.refl Fn ?_
  refine Road.iloadN 19 bAs000_d19 rfl ?_
  refine Road.iadd 20 bAs000_d20 ?_
  refine Road.nameI ?_
  intro z_5 hz_5
  obtain rfl : z_5 = (Nat.toInt32 (cs.length + ds.length)) := by rw [hz_5]; exact Road.add32n _ _
  refine Road.callP (B' := bEa1) (a := q) 21 (argsL := [(.int (Nat.toInt32 (cs.length + ds.length)))]) (rest := []) "java/lang/StringBuilder" 0 bAs000_d21 (wI hw 92 rfl) (wI hw 94 rfl) (wI hw 95 rfl) (wI hw 93 rfl) (wI hw 55 rfl) (wI hw 96 rfl) (by decide) E (cEa1 l Z a0 hw n0 hEW q b cs N (cs.length + ds.length) h0 σ S0 hm) (lenOf bEa1_pd rfl) rfl rfl rfl (by decide) (by decide) (ce' := 0) (sl' := 0) rfl rfl (by decide) (by decide) ?_
  rintro _ h_6 σ_7 m_8 ⟨rfl, rfl⟩
  refine Road.Go.weaken (σ' := σ) m_8 (Nat.le_refl _) (Nat.le_refl _) ?_
  refine Road.aloadN 24 bAs000_d24 rfl ?_
  refine Road.aloadN 25 bAs000_d25 rfl ?_
  refine Road.getfield 26 bAs000_d26 (wI hw 90 rfl) Via.refl Fn ?_
  refine Road.aloadN 29 bAs000_d29 rfl ?_
  refine Road.callP (B' := bPs10) (a := q) 30 (argsL := [(.int (Nat.toInt32 cs.length)), (.ref s)]) (rest := []) "java/lang/StringBuilder" 0 bAs000_d30 (wI hw 97 rfl) (wI hw 99 rfl) (wI hw 100 rfl) (wI hw 98 rfl) (wI hw 55 rfl) (wI hw 101 rfl) (by decide) E (cPs10 l Z a0 hw n0 hEW q b cs N s sb ds h0 σ S0 T hm hcap nsq nbq nsb nbb sb_ sq cp Hc hcp fm hfm Hf H0 H1 H2) (lenOf bPs10_pd rfl) rfl rfl rfl (by decide) (by decide) (ce' := 0) (sl' := 0) rfl rfl (by decide) (by decide) ?_
  rintro _ h_10 σ_11 m_12 ⟨rfl, K_13, d, ⟨E2, Fc2, Fv2, Fn2, ⟨r3, A3, hr3⟩, Fy2, EB2⟩, gd, sd⟩
  replace sq := m_12 _ sq
  replace sb_ := m_12 _ sb_
  replace E := E2
  replace Fc := Fc2
  replace Fv := Fv2
  replace Fn := Fn2
  have Fy := Fy2
  have nqd : q ≠ d := by obtain ⟨c, Ar, -⟩ := A3; exact ne_arr E (wI hw 46 rfl) Ar
  refine Road.aloadN 33 bAs000_d33 rfl ?_
  refine Road.dup 34 bAs000_d34 ?_
  refine Road.getfield 35 bAs000_d35 (wI hw 90 rfl) Via.refl Fn ?_
  refine Road.iloadN 38 bAs000_d38 rfl ?_
  refine Road.iadd 39 bAs000_d39 ?_
  refine Road.nameI ?_
  intro z_16 hz_16
  obtain rfl : z_16 = (Nat.toInt32 (cs ++ ds).length) := by rw [hz_16]; rw [Road.add32n, List.length_append]
  refine Road.putfield 40 bAs000_d40 (wI hw 90 rfl) Via.refl Fn E (Or.inl (wI hw 91 rfl)) (wI hw 46 rfl) (ty := .int) (by decide) rfl rfl sq ?_
  intro h_19 W_17 K_18
  replace Fn := Fn.same W_17
  replace Fc := Fc.other W_17 (Or.inr (slot_ne (Or.inl (wI hw 62 rfl)) (Or.inl (wI hw 91 rfl)) (by decide) (t := .byte) (by decide) (t' := .int) (by decide)))
  replace Fv := Fv.other W_17 (Or.inr (slot_ne (Or.inl (wI hw 60 rfl)) (Or.inl (wI hw 91 rfl)) (by decide) (t := (.array .byte)) (by decide) (t' := .int) (by decide)))
  replace Fy := Fy.other W_17 (Or.inr (slot_ne (Or.inl (wI hw 279 rfl)) (Or.inl (wI hw 91 rfl)) (by decide) (t := .boolean) (by decide) (t' := .int) (by decide)))
  replace E := E.keep K_18
  replace A3 := A3.keep K_18 (ninS (Ne.symm nqd) nin0)
  replace EB2 := EB2.keep K_18
  refine Road.aloadN 43 bAs000_d43 rfl ?_
  exact Road.aret 44 bAs000_d44 (t := (.object "java/lang/AbstractStringBuilder")) rfl rfl rfl (by decide) (by decide) (fun σ' m => ⟨rfl, (K_13.trans K_18 (by simp)), d, ⟨E, Fc, Fv, Fn, ⟨r3, A3, hr3⟩, fun c hc => (List.mem_append.mp hc).elim (fun hc => (hlt c hc)) (fun hc => ⟨((T.2.2.2.2) c hc).1, by have := ((T.2.2.2.2) c hc).2; omega⟩), Fy, EB2⟩, gd, m _ sd⟩)
def bSs100 : Road.Bdy := (⟨"java/lang/StringBuilder", "append", "(Ljava/lang/String;)Ljava/lang/StringBuilder;"⟩, jdk_67_method_7_code, 2, (some (.object "java/lang/StringBuilder")), { frames := 8, cells := 0, slots := 0, locals := 120 })
theorem bSs100_pd : parseMethodDescriptor "(Ljava/lang/String;)Ljava/lang/StringBuilder;" = some ⟨[(.object "java/lang/String")], (some (.object "java/lang/StringBuilder"))⟩ := by decide +kernel
theorem bSs100_pn : plainFor bSs100.y = true := plainFor_of_name (show plainName "java/lang/StringBuilder" = true from by first | (simp [plainName, overriddenIn]; done) | decide +kernel)
theorem cSs100 (l : Launch) (Z : State) (a0 : Array Value) (hw : ∀ d ∈ tables_1, d.before a0 Z = true) (n0 : Nat) (hEW : EW Z a0 consts_1) (q b : Addr) (cs : List Int32) (N : Nat) (s sb : Addr) (ds : List Int32) (h0 : Heap) (σ : Addr → Prop) (S : Road.Sb1 Z h0 q b cs N) (T : Road.Str Z h0 s sb ds) (hm : cs.length + ds.length ≤ N) (hcap : N ≤ 34) (nsq : s ≠ q) (nbq : sb ≠ q) (nsb : s ≠ b) (nbb : sb ≠ b) (sb_ : σ b) (sq : σ q) (cp : Int32) (Hc : Sta Z Z.heap Road.SN "COMPACT_STRINGS" "Z" (.int cp)) (hcp : ¬ cp = 0) (fm : Value) (hfm : fm.isRef = true) (Hf : Sta Z Z.heap "jdk/internal/util/Preconditions" "SIOOBE_FORMATTER" "Ljava/util/function/BiFunction;" fm) (H0 : Sta Z Z.heap "java/lang/StringUTF16" "$assertionsDisabled" "Z" (.int 1)) (H1 : Sta Z Z.heap "java/lang/StringUTF16" "HI_BYTE_SHIFT" "I" (.int 0)) (H2 : Sta Z Z.heap "java/lang/StringUTF16" "LO_BYTE_SHIFT" "I" (.int 8)) :
    Road.Con l Z consts_1 n0 false bSs100 [] σ #[(.ref q), (.ref s)] h0 (fun v h2 s2 => v = some (.ref q) ∧ Keep h0 h2 [q, b] ∧ ∃ d, Road.Sb1 Z h2 q d (cs ++ ds) N ∧ (d = b ∨ h0.size ≤ d) ∧ s2 d) := by
  refine Road.Con.of bSs100_pn hEW #[.val (.ref q), .val (.ref s)] (fun m => Road.ent (Road.laid1 rfl (Road.laid1 rfl Road.laid0)) (k := 0) rfl rfl) ?_
  intro D hD
  refine Road.aloadN 0 bSs000_d0 rfl ?_
  refine Road.aloadN 1 bSs000_d1 rfl ?_
  refine Road.callUp (B' := bAs100) (a := q) 2 (argsL := [(.ref s)]) (rest := []) "java/lang/StringBuilder" 0 bSs000_d2 (wI hw 75 rfl) (Road.notFace_sib (wI hw 95 rfl) rfl) (wI hw 76 rfl) (wI hw 77 rfl) (wI hw 55 rfl) (wI hw 79 rfl) (by decide) (by decide) S.1 (cAs100 l Z a0 hw n0 hEW q b cs N s sb ds h0 σ S T hm hcap nsq nbq nsb nbb sb_ sq cp Hc hcp fm hfm Hf H0 H1 H2) (lenOf bAs100_pd rfl) rfl rfl rfl (by decide) (by decide) (ce' := 0) (sl' := 0) rfl rfl (by decide) (by decide) ?_
  rintro _ h_1 σ_2 m_3 ⟨rfl, K_4, d, S2, gd, sd⟩
  refine Road.pop 5 bSs000_d5 ?_
  refine Road.aloadN 6 bSs000_d6 rfl ?_
  exact Road.aret 7 bSs000_d7 (t := (.object "java/lang/StringBuilder")) rfl rfl rfl (by decide) (by decide) (fun σ' m => ⟨rfl, K_4, d, S2, gd, m _ sd⟩)
def bAs101 : Road.Bdy := (⟨"java/lang/AbstractStringBuilder", "append", "(Ljava/lang/String;)Ljava/lang/AbstractStringBuilder;"⟩, jdk_68_method_22_code, 3, (some (.object "java/lang/AbstractStringBuilder")), { frames := 7, cells := 1, slots := 68, locals := 106 })
theorem bAs101_pd : parseMethodDescriptor "(Ljava/lang/String;)Ljava/lang/AbstractStringBuilder;" = some ⟨[(.object "java/lang/String")], (some (.object "java/lang/AbstractStringBuilder"))⟩ := by decide +kernel
theorem bAs101_pn : plainFor bAs101.y = true := plainFor_of_name (show plainName "java/lang/AbstractStringBuilder" = true from by first | (simp [plainName, overriddenIn]; done) | decide +kernel)
theorem cAs101 (l : Launch) (Z : State) (a0 : Array Value) (hw : ∀ d ∈ tables_1, d.before a0 Z = true) (n0 : Nat) (hEW : EW Z a0 consts_1) (q b : Addr) (cs : List Int32) (N : Nat) (s sb : Addr) (ds : List Int32) (h0 : Heap) (σ : Addr → Prop) (S : Road.Sb1 Z h0 q b cs N) (T : Road.Str Z h0 s sb ds) (hm : N < cs.length + ds.length) (hcap : (max (cs.length + ds.length) (2 * N + 2)) ≤ 34) (nsq : s ≠ q) (nbq : sb ≠ q) (nsb : s ≠ b) (nbb : sb ≠ b) (sb_ : σ b) (sq : σ q) (cp : Int32) (Hc : Sta Z Z.heap Road.SN "COMPACT_STRINGS" "Z" (.int cp)) (hcp : ¬ cp = 0) (fm : Value) (hfm : fm.isRef = true) (Hf : Sta Z Z.heap "jdk/internal/util/Preconditions" "SIOOBE_FORMATTER" "Ljava/util/function/BiFunction;" fm) (H0 : Sta Z Z.heap "java/lang/StringUTF16" "$assertionsDisabled" "Z" (.int 1)) (H1 : Sta Z Z.heap "java/lang/StringUTF16" "HI_BYTE_SHIFT" "I" (.int 0)) (H2 : Sta Z Z.heap "java/lang/StringUTF16" "LO_BYTE_SHIFT" "I" (.int 8)) :
    Road.Con l Z consts_1 n0 false bAs101 [] σ #[(.ref q), (.ref s)] h0 (fun v h2 s2 => v = some (.ref q) ∧ Keep h0 h2 [q, b] ∧ ∃ d, Road.Sb1 Z h2 q d (cs ++ ds) (max (cs.length + ds.length) (2 * N + 2)) ∧ (d = b ∨ h0.size ≤ d) ∧ s2 d) := by
  have hN := S.small
  have hle := S.le
  have S0 := S
  obtain ⟨E, Fc, Fv, Fn, ⟨r, Ab, hr⟩, hlt, Fy, EB⟩ := S
  refine Road.Con.of bAs101_pn hEW #[.val (.ref q), .val (.ref s), .unset] (fun m => Road.ent (Road.laid1 rfl (Road.laid1 rfl Road.laid0)) (k := 1) rfl rfl) ?_
  intro D hD
  clear EB
  refine Road.aloadN 0 bAs000_d0 rfl ?_
  refine Road.ifnonnull 1 9 rfl bAs000_d1 rfl (fun hc1 => ?_) (fun q => absurd q (by simp))
  refine Road.aloadN 9 bAs000_d9 rfl ?_
  refine Road.callV (B' := bLen) (a := s) 10 (argsL := []) (rest := []) "java/lang/String" 0 bAs000_d10 (wI hw 80 rfl) (wI hw 81 rfl) (fun vm hz => Road.notFace_sib (args := #[]) (mv (s := D.s.setVm vm) hz (wI hw 83 rfl)) rfl) (wI hw 83 rfl) (wI hw 82 rfl) (wI hw 7 rfl) (wI hw 84 rfl) (by decide) T.1 (cLen l Z a0 hw n0 hEW s sb ds h0 σ T cp Hc hcp) (lenOf bLen_pd rfl) rfl rfl rfl (by decide) (by decide) (ce' := 0) (sl' := 0) rfl rfl (by decide) (by decide) ?_
  rintro _ h_1 σ_2 m_3 ⟨rfl, rfl⟩
  refine Road.Go.weaken (σ' := σ) m_3 (Nat.le_refl _) (Nat.le_refl _) ?_
  refine Road.istoreN 13 #[.val (.ref q), .val (.ref s), .val (.int (Nat.toInt32 ds.length))] bAs000_d13 rfl ?_
  refine Road.aloadN 14 bAs000_d14 rfl ?_
  refine Road.aloadN 15 bAs000_d15 rfl ?_
  refine Road.getfield 16 bAs000_d16 (wI hw 90 rfl) Via.refl Fn ?_
  refine Road.iloadN 19 bAs000_d19 rfl ?_
  refine Road.iadd 20 bAs000_d20 ?_
  refine Road.nameI ?_
  intro z_5 hz_5
  obtain rfl : z_5 = (Nat.toInt32 (cs.length + ds.length)) := by rw [hz_5]; exact Road.add32n _ _
  have ts := T.lt
  have tb := T.ltb
  refine Road.callP (B' := bEg1) (a := q) 21 (argsL := [(.int (Nat.toInt32 (cs.length + ds.length)))]) (rest := []) "java/lang/StringBuilder" 0 bAs000_d21 (wI hw 92 rfl) (wI hw 94 rfl) (wI hw 95 rfl) (wI hw 93 rfl) (wI hw 55 rfl) (wI hw 96 rfl) (by decide) E (cEg1 l Z a0 hw n0 hEW q b cs N (cs.length + ds.length) h0 σ S0 hm hcap sq) (lenOf bEg1_pd rfl) rfl rfl rfl (by decide) (by decide) (ce' := 1) (sl' := 68) rfl rfl (by decide) (by decide) ?_
  rintro _ h_6 σ_7 m_8 ⟨rfl, K_9, b2, S2, g2, s2⟩
  replace T := T.keep K_9 (ninS nsq nin0) (ninS nbq nin0)
  replace sq := m_8 _ sq
  replace sb_ := m_8 _ sb_
  clear E Fc Fv Fn Fy Ab
  have S3 := S2
  obtain ⟨E, Fc, Fv, Fn, -⟩ := S2
  refine Road.aloadN 24 bAs000_d24 rfl ?_
  refine Road.aloadN 25 bAs000_d25 rfl ?_
  refine Road.getfield 26 bAs000_d26 (wI hw 90 rfl) Via.refl Fn ?_
  refine Road.aloadN 29 bAs000_d29 rfl ?_
  refine Road.callP (B' := bPs10) (a := q) 30 (argsL := [(.int (Nat.toInt32 cs.length)), (.ref s)]) (rest := []) "java/lang/StringBuilder" 0 bAs000_d30 (wI hw 97 rfl) (wI hw 99 rfl) (wI hw 100 rfl) (wI hw 98 rfl) (wI hw 55 rfl) (wI hw 101 rfl) (by decide) E (cPs10 l Z a0 hw n0 hEW q b2 cs (max (cs.length + ds.length) (2 * N + 2)) s sb ds h_6 σ_7 S3 T (by omega) hcap nsq nbq (Nat.ne_of_lt (Nat.lt_of_lt_of_le ts g2)) (Nat.ne_of_lt (Nat.lt_of_lt_of_le tb g2)) s2 sq cp Hc hcp fm hfm Hf H0 H1 H2) (lenOf bPs10_pd rfl) rfl rfl rfl (by decide) (by decide) (ce' := 1) (sl' := 68) rfl rfl (by decide) (by decide) ?_
  rintro _ h_12 σ_13 m_14 ⟨rfl, K_15, d, ⟨E2, Fc2, Fv2, Fn2, ⟨r3, A3, hr3⟩, Fy2, EB2⟩, gd, sd⟩
  replace sq := m_14 _ sq
  replace sb_ := m_14 _ sb_
  replace s2 := m_14 _ s2
  replace E := E2
  replace Fc := Fc2
  replace Fv := Fv2
  replace Fn := Fn2
  have Fy := Fy2
  have nqd : q ≠ d := by obtain ⟨c, Ar, -⟩ := A3; exact ne_arr E (wI hw 46 rfl) Ar
  refine Road.aloadN 33 bAs000_d33 rfl ?_
  refine Road.dup 34 bAs000_d34 ?_
  refine Road.getfield 35 bAs000_d35 (wI hw 90 rfl) Via.refl Fn ?_
  refine Road.iloadN 38 bAs000_d38 rfl ?_
  refine Road.iadd 39 bAs000_d39 ?_
  refine Road.nameI ?_
  intro z_19 hz_19
  obtain rfl : z_19 = (Nat.toInt32 (cs ++ ds).length) := by rw [hz_19]; rw [Road.add32n, List.length_append]
  refine Road.putfield 40 bAs000_d40 (wI hw 90 rfl) Via.refl Fn E (Or.inl (wI hw 91 rfl)) (wI hw 46 rfl) (ty := .int) (by decide) rfl rfl sq ?_
  intro h_22 W_20 K_21
  replace Fn := Fn.same W_20
  replace Fc := Fc.other W_20 (Or.inr (slot_ne (Or.inl (wI hw 62 rfl)) (Or.inl (wI hw 91 rfl)) (by decide) (t := .byte) (by decide) (t' := .int) (by decide)))
  replace Fv := Fv.other W_20 (Or.inr (slot_ne (Or.inl (wI hw 60 rfl)) (Or.inl (wI hw 91 rfl)) (by decide) (t := (.array .byte)) (by decide) (t' := .int) (by decide)))
  replace Fy := Fy.other W_20 (Or.inr (slot_ne (Or.inl (wI hw 279 rfl)) (Or.inl (wI hw 91 rfl)) (by decide) (t := .boolean) (by decide) (t' := .int) (by decide)))
  replace E := E.keep K_21
  replace A3 := A3.keep K_21 (ninS (Ne.symm nqd) nin0)
  replace EB2 := EB2.keep K_21
  refine Road.aloadN 43 bAs000_d43 rfl ?_
  exact Road.aret 44 bAs000_d44 (t := (.object "java/lang/AbstractStringBuilder")) rfl rfl rfl (by decide) (by decide) (fun σ' m => ⟨rfl, (Road.keep_sub ((K_9.trans (ws' := [q, b2]) K_15 (by intro x hx; simp only [List.mem_cons, List.not_mem_nil, or_false] at hx; rcases hx with rfl | rfl; exact Or.inl (by simp); exact Or.inr g2)).trans K_21 (by simp)) (by simp)), d, ⟨E, Fc, Fv, Fn, ⟨r3, A3, hr3⟩, fun c hc => (List.mem_append.mp hc).elim (fun hc => (hlt c hc)) (fun hc => ⟨((T.2.2.2.2) c hc).1, by have := ((T.2.2.2.2) c hc).2; omega⟩), Fy, EB2⟩, (gd.elim (fun z => Or.inr (by rw [z]; exact g2)) (fun z => Or.inr (Nat.le_trans K_9.1 z))), m _ sd⟩)
def bSs101 : Road.Bdy := (⟨"java/lang/StringBuilder", "append", "(Ljava/lang/String;)Ljava/lang/StringBuilder;"⟩, jdk_67_method_7_code, 2, (some (.object "java/lang/StringBuilder")), { frames := 8, cells := 1, slots := 68, locals := 120 })
theorem bSs101_pd : parseMethodDescriptor "(Ljava/lang/String;)Ljava/lang/StringBuilder;" = some ⟨[(.object "java/lang/String")], (some (.object "java/lang/StringBuilder"))⟩ := by decide +kernel
theorem bSs101_pn : plainFor bSs101.y = true := plainFor_of_name (show plainName "java/lang/StringBuilder" = true from by first | (simp [plainName, overriddenIn]; done) | decide +kernel)
theorem cSs101 (l : Launch) (Z : State) (a0 : Array Value) (hw : ∀ d ∈ tables_1, d.before a0 Z = true) (n0 : Nat) (hEW : EW Z a0 consts_1) (q b : Addr) (cs : List Int32) (N : Nat) (s sb : Addr) (ds : List Int32) (h0 : Heap) (σ : Addr → Prop) (S : Road.Sb1 Z h0 q b cs N) (T : Road.Str Z h0 s sb ds) (hm : N < cs.length + ds.length) (hcap : (max (cs.length + ds.length) (2 * N + 2)) ≤ 34) (nsq : s ≠ q) (nbq : sb ≠ q) (nsb : s ≠ b) (nbb : sb ≠ b) (sb_ : σ b) (sq : σ q) (cp : Int32) (Hc : Sta Z Z.heap Road.SN "COMPACT_STRINGS" "Z" (.int cp)) (hcp : ¬ cp = 0) (fm : Value) (hfm : fm.isRef = true) (Hf : Sta Z Z.heap "jdk/internal/util/Preconditions" "SIOOBE_FORMATTER" "Ljava/util/function/BiFunction;" fm) (H0 : Sta Z Z.heap "java/lang/StringUTF16" "$assertionsDisabled" "Z" (.int 1)) (H1 : Sta Z Z.heap "java/lang/StringUTF16" "HI_BYTE_SHIFT" "I" (.int 0)) (H2 : Sta Z Z.heap "java/lang/StringUTF16" "LO_BYTE_SHIFT" "I" (.int 8)) :
    Road.Con l Z consts_1 n0 false bSs101 [] σ #[(.ref q), (.ref s)] h0 (fun v h2 s2 => v = some (.ref q) ∧ Keep h0 h2 [q, b] ∧ ∃ d, Road.Sb1 Z h2 q d (cs ++ ds) (max (cs.length + ds.length) (2 * N + 2)) ∧ (d = b ∨ h0.size ≤ d) ∧ s2 d) := by
  refine Road.Con.of bSs101_pn hEW #[.val (.ref q), .val (.ref s)] (fun m => Road.ent (Road.laid1 rfl (Road.laid1 rfl Road.laid0)) (k := 0) rfl rfl) ?_
  intro D hD
  refine Road.aloadN 0 bSs000_d0 rfl ?_
  refine Road.aloadN 1 bSs000_d1 rfl ?_
  refine Road.callUp (B' := bAs101) (a := q) 2 (argsL := [(.ref s)]) (rest := []) "java/lang/StringBuilder" 0 bSs000_d2 (wI hw 75 rfl) (Road.notFace_sib (wI hw 95 rfl) rfl) (wI hw 76 rfl) (wI hw 77 rfl) (wI hw 55 rfl) (wI hw 79 rfl) (by decide) (by decide) S.1 (cAs101 l Z a0 hw n0 hEW q b cs N s sb ds h0 σ S T hm hcap nsq nbq nsb nbb sb_ sq cp Hc hcp fm hfm Hf H0 H1 H2) (lenOf bAs101_pd rfl) rfl rfl rfl (by decide) (by decide) (ce' := 1) (sl' := 68) rfl rfl (by decide) (by decide) ?_
  rintro _ h_1 σ_2 m_3 ⟨rfl, K_4, d, S2, gd, sd⟩
  refine Road.pop 5 bSs000_d5 ?_
  refine Road.aloadN 6 bSs000_d6 rfl ?_
  exact Road.aret 7 bSs000_d7 (t := (.object "java/lang/StringBuilder")) rfl rfl rfl (by decide) (by decide) (fun σ' m => ⟨rfl, K_4, d, S2, gd, m _ sd⟩)
def bIf11 : Road.Bdy := (⟨"java/lang/AbstractStringBuilder", "inflateIfNeededFor", "(Ljava/lang/String;)V"⟩, jdk_68_method_71_code, 2, none, { frames := 1, cells := 0, slots := 0, locals := 13 })
theorem bIf11_pd : parseMethodDescriptor "(Ljava/lang/String;)V" = some ⟨[(.object "java/lang/String")], none⟩ := by decide +kernel
theorem bIf11_pn : plainFor bIf11.y = true := plainFor_of_name (show plainName "java/lang/AbstractStringBuilder" = true from by first | (simp [plainName, overriddenIn]; done) | decide +kernel)
theorem cIf11 (l : Launch) (Z : State) (a0 : Array Value) (hw : ∀ d ∈ tables_1, d.before a0 Z = true) (n0 : Nat) (hEW : EW Z a0 consts_1) (q b : Addr) (cs : List Int32) (N : Nat) (s sb : Addr) (ds : List Int32) (h0 : Heap) (σ : Addr → Prop) (S : Road.Sb1 Z h0 q b cs N) (T : Road.Str16 Z h0 s sb ds) (cp : Int32) (Hc : Sta Z Z.heap Road.SN "COMPACT_STRINGS" "Z" (.int cp)) (hcp : ¬ cp = 0) (fm : Value) (hfm : fm.isRef = true) (Hf : Sta Z Z.heap "jdk/internal/util/Preconditions" "SIOOBE_FORMATTER" "Ljava/util/function/BiFunction;" fm) (H0 : Sta Z Z.heap "java/lang/StringUTF16" "$assertionsDisabled" "Z" (.int 1)) (H1 : Sta Z Z.heap "java/lang/StringUTF16" "HI_BYTE_SHIFT" "I" (.int 0)) (H2 : Sta Z Z.heap "java/lang/StringUTF16" "LO_BYTE_SHIFT" "I" (.int 8)) :
    Road.Con l Z consts_1 n0 false bIf11 [] σ #[(.ref q), (.ref s)] h0 (fun v h2 s2 => v = none ∧ h0 = h2) := by
  have S0 := S
  obtain ⟨E, Fc, -⟩ := S
  refine Road.Con.of bIf11_pn hEW #[.val (.ref q), .val (.ref s)] (fun m => Road.ent (Road.laid1 rfl (Road.laid1 rfl Road.laid0)) (k := 0) rfl rfl) ?_
  intro D hD
  refine Road.getstatic 0 bIf00_d0 (wI hw 58 rfl) Via.refl Hc ?_
  refine Road.if_eq 3 21 bIf00_d3 rfl (fun q => absurd q hcp) (fun hc3 => ?_)
  refine Road.aloadN 6 bIf00_d6 rfl ?_
  refine Road.getfield 7 bIf00_d7 (wI hw 61 rfl) Via.refl Fc ?_
  refine Road.aloadN 10 bIf00_d10 rfl ?_
  refine Road.callV (B' := bCo1) (a := s) 11 (argsL := []) (rest := [(.int (1 : Int32))]) "java/lang/String" 1 bIf00_d11 (wI hw 107 rfl) (wI hw 86 rfl) (fun vm hz => Road.notFace_sib (args := #[]) (mv (s := D.s.setVm vm) hz (wI hw 83 rfl)) rfl) (wI hw 88 rfl) (wI hw 87 rfl) (wI hw 7 rfl) (wI hw 89 rfl) (by decide) T.1 (cCo1 l Z a0 hw n0 hEW s h0 σ T.2.1 cp Hc hcp) (lenOf bCo1_pd rfl) rfl rfl rfl (by decide) (by decide) (ce' := 0) (sl' := 0) rfl rfl (by decide) (by decide) ?_
  rintro _ h_1 σ_2 m_3 ⟨rfl, rfl⟩
  refine Road.Go.weaken (σ' := σ) m_3 (Nat.le_refl _) (Nat.le_refl _) ?_
  refine Road.icmp_eq 14 21 bIf00_d14 rfl (fun hc14 => ?_) (fun q => absurd q (by decide))
  exact Road.ret 21 bIf00_d21 rfl (by decide) (by decide) (fun σ' m => ⟨rfl, rfl⟩)
def bPs11 : Road.Bdy := (⟨"java/lang/AbstractStringBuilder", "putStringAt", "(ILjava/lang/String;)V"⟩, jdk_68_method_73_code, 3, none, { frames := 2, cells := 0, slots := 0, locals := 33 })
theorem bPs11_pd : parseMethodDescriptor "(ILjava/lang/String;)V" = some ⟨[.int, (.object "java/lang/String")], none⟩ := by decide +kernel
theorem bPs11_pn : plainFor bPs11.y = true := plainFor_of_name (show plainName "java/lang/AbstractStringBuilder" = true from by first | (simp [plainName, overriddenIn]; done) | decide +kernel)
theorem cPs11 (l : Launch) (Z : State) (a0 : Array Value) (hw : ∀ d ∈ tables_1, d.before a0 Z = true) (n0 : Nat) (hEW : EW Z a0 consts_1) (q b : Addr) (cs : List Int32) (N : Nat) (s sb : Addr) (ds : List Int32) (h0 : Heap) (σ : Addr → Prop) (S : Road.Sb1 Z h0 q b cs N) (T : Road.Str16 Z h0 s sb ds) (hm : cs.length + ds.length ≤ N) (hcap : N ≤ 34) (nsq : s ≠ q) (nbq : sb ≠ q) (nsb : s ≠ b) (nbb : sb ≠ b) (sb_ : σ b) (sq : σ q) (cp : Int32) (Hc : Sta Z Z.heap Road.SN "COMPACT_STRINGS" "Z" (.int cp)) (hcp : ¬ cp = 0) (fm : Value) (hfm : fm.isRef = true) (Hf : Sta Z Z.heap "jdk/internal/util/Preconditions" "SIOOBE_FORMATTER" "Ljava/util/function/BiFunction;" fm) (H0 : Sta Z Z.heap "java/lang/StringUTF16" "$assertionsDisabled" "Z" (.int 1)) (H1 : Sta Z Z.heap "java/lang/StringUTF16" "HI_BYTE_SHIFT" "I" (.int 0)) (H2 : Sta Z Z.heap "java/lang/StringUTF16" "LO_BYTE_SHIFT" "I" (.int 8)) :
    Road.Con l Z consts_1 n0 false bPs11 [] σ #[(.ref q), (.int (Nat.toInt32 cs.length)), (.ref s)] h0 (fun v h2 s2 => v = none ∧ Keep h0 h2 [q, b] ∧ ∃ d, (Exa Z h2 q Road.SB ∧ Fld Z h2 q Road.AB "coder" "B" (.int 1) ∧ Fld Z h2 q Road.AB "value" "[B" (.ref d) ∧ Fld Z h2 q Road.AB "count" "I" (.int (Nat.toInt32 cs.length)) ∧ (∃ r, Road.Ary Z h2 d .byte ((Road.utf (cs ++ ds)) ++ r) ∧ (2 * (cs ++ ds).length) + r.length = (2 * N)) ∧ Fld Z h2 q Road.AB "maybeLatin1" "Z" (.int 0) ∧ Exa Z h2 d "[B") ∧ (d = b ∨ h0.size ≤ d) ∧ s2 d) := by
  have hN := S.small
  have hle := S.le
  have S0 := S
  obtain ⟨E, Fc, Fv, Fn, ⟨r, Ab, hr⟩, hlt, Fy, EB⟩ := S
  have nqb : q ≠ b := by obtain ⟨c, Ar, -⟩ := Ab; exact ne_arr E (wI hw 46 rfl) Ar
  refine Road.Con.of bPs11_pn hEW #[.val (.ref q), .val (.int (Nat.toInt32 cs.length)), .val (.ref s)] (fun m => Road.ent (Road.laid1 rfl (Road.laid1 rfl (Road.laid1 rfl Road.laid0))) (k := 0) rfl rfl) ?_
  intro D hD
  refine Road.aloadN 0 bPs00_d0 rfl ?_
  refine Road.aloadN 1 bPs00_d1 rfl ?_
  refine Road.callP (B' := bIf11) (a := q) 2 (argsL := [(.ref s)]) (rest := []) "java/lang/StringBuilder" 0 bPs00_d2 (wI hw 102 rfl) (wI hw 104 rfl) (wI hw 105 rfl) (wI hw 103 rfl) (wI hw 55 rfl) (wI hw 106 rfl) (by decide) E (cIf11 l Z a0 hw n0 hEW q b cs N s sb ds h0 σ S0 T cp Hc hcp fm hfm Hf H0 H1 H2) (lenOf bIf11_pd rfl) rfl rfl rfl (by decide) (by decide) (ce' := 0) (sl' := 0) rfl rfl (by decide) (by decide) ?_
  rintro _ h_1 σ_2 m_3 ⟨rfl, rfl⟩
  refine Road.Go.weaken (σ' := σ) m_3 (Nat.le_refl _) (Nat.le_refl _) ?_
  refine Road.aloadN 5 bPs00_d5 rfl ?_
  refine Road.aloadN 6 bPs00_d6 rfl ?_
  refine Road.getfield 7 bPs00_d7 (wI hw 59 rfl) Via.refl Fv ?_
  refine Road.iloadN 10 bPs00_d10 rfl ?_
  refine Road.aloadN 11 bPs00_d11 rfl ?_
  refine Road.getfield 12 bPs00_d12 (wI hw 61 rfl) Via.refl Fc ?_
  refine Road.callV (B' := bGb11) (a := s) 15 (argsL := [(.ref b), (.int (Nat.toInt32 cs.length)), (.int (1 : Int32))]) (rest := []) "java/lang/String" 0 bPs00_d15 (wI hw 108 rfl) (wI hw 109 rfl) (fun vm hz => Road.notFace_sib (args := #[]) (mv (s := D.s.setVm vm) hz (wI hw 83 rfl)) rfl) (wI hw 111 rfl) (wI hw 110 rfl) (wI hw 7 rfl) (wI hw 112 rfl) (by decide) T.1 (cGb11 l Z a0 hw n0 hEW s sb b ds _ cs.length h0 σ T Ab (by simp only [List.length_append, List.length_map, Road.utf_len, List.length_replicate, List.length_drop, List.length_cons, List.length_nil]; omega) sb_ cp Hc hcp fm hfm Hf H0 H1 H2) (lenOf bGb11_pd rfl) rfl rfl rfl (by decide) (by decide) (ce' := 0) (sl' := 0) rfl rfl (by decide) (by decide) ?_
  rintro _ h_5 σ_6 m_7 ⟨rfl, K_8, A2⟩
  replace E := E.keep K_8
  replace Fc := Fc.keep K_8 (ninS nqb nin0)
  replace Fv := Fv.keep K_8 (ninS nqb nin0)
  replace Fn := Fn.keep K_8 (ninS nqb nin0)
  replace Fy := Fy.keep K_8 (ninS nqb nin0)
  replace EB := EB.keep K_8
  replace sq := m_7 _ sq
  replace sb_ := m_7 _ sb_
  rw [Road.utf_put_str _ _ _ (by omega)] at A2
  exact Road.ret 18 bPs00_d18 rfl (by decide) (by decide) (fun σ' m => ⟨rfl, (Road.keep_sub K_8 (by simp)), b, ⟨E, Fc, Fv, Fn, ⟨_, A2, by simp only [List.length_append, List.length_map, Road.utf_len, List.length_replicate, List.length_drop, List.length_cons, List.length_nil]; omega⟩, Fy, EB⟩, Or.inl rfl, m _ sb_⟩)
def bAs110 : Road.Bdy := (⟨"java/lang/AbstractStringBuilder", "append", "(Ljava/lang/String;)Ljava/lang/AbstractStringBuilder;"⟩, jdk_68_method_22_code, 3, (some (.object "java/lang/AbstractStringBuilder")), { frames := 3, cells := 0, slots := 0, locals := 48 })
theorem bAs110_pd : parseMethodDescriptor "(Ljava/lang/String;)Ljava/lang/AbstractStringBuilder;" = some ⟨[(.object "java/lang/String")], (some (.object "java/lang/AbstractStringBuilder"))⟩ := by decide +kernel
theorem bAs110_pn : plainFor bAs110.y = true := plainFor_of_name (show plainName "java/lang/AbstractStringBuilder" = true from by first | (simp [plainName, overriddenIn]; done) | decide +kernel)
theorem cAs110 (l : Launch) (Z : State) (a0 : Array Value) (hw : ∀ d ∈ tables_1, d.before a0 Z = true) (n0 : Nat) (hEW : EW Z a0 consts_1) (q b : Addr) (cs : List Int32) (N : Nat) (s sb : Addr) (ds : List Int32) (h0 : Heap) (σ : Addr → Prop) (S : Road.Sb1 Z h0 q b cs N) (T : Road.Str16 Z h0 s sb ds) (hm : cs.length + ds.length ≤ N) (hcap : N ≤ 34) (nsq : s ≠ q) (nbq : sb ≠ q) (nsb : s ≠ b) (nbb : sb ≠ b) (sb_ : σ b) (sq : σ q) (cp : Int32) (Hc : Sta Z Z.heap Road.SN "COMPACT_STRINGS" "Z" (.int cp)) (hcp : ¬ cp = 0) (fm : Value) (hfm : fm.isRef = true) (Hf : Sta Z Z.heap "jdk/internal/util/Preconditions" "SIOOBE_FORMATTER" "Ljava/util/function/BiFunction;" fm) (H0 : Sta Z Z.heap "java/lang/StringUTF16" "$assertionsDisabled" "Z" (.int 1)) (H1 : Sta Z Z.heap "java/lang/StringUTF16" "HI_BYTE_SHIFT" "I" (.int 0)) (H2 : Sta Z Z.heap "java/lang/StringUTF16" "LO_BYTE_SHIFT" "I" (.int 8)) :
    Road.Con l Z consts_1 n0 false bAs110 [] σ #[(.ref q), (.ref s)] h0 (fun v h2 s2 => v = some (.ref q) ∧ Keep h0 h2 [q, b] ∧ ∃ d, Road.Sb1 Z h2 q d (cs ++ ds) N ∧ (d = b ∨ h0.size ≤ d) ∧ s2 d) := by
  have hN := S.small
  have hle := S.le
  have S0 := S
  obtain ⟨E, Fc, Fv, Fn, ⟨r, Ab, hr⟩, hlt, Fy, EB⟩ := S
  refine Road.Con.of bAs110_pn hEW #[.val (.ref q), .val (.ref s), .unset] (fun m => Road.ent (Road.laid1 rfl (Road.laid1 rfl Road.laid0)) (k := 1) rfl rfl) ?_
  intro D hD
  clear EB
  refine Road.aloadN 0 bAs000_d0 rfl ?_
  refine Road.ifnonnull 1 9 rfl bAs000_d1 rfl (fun hc1 => ?_) (fun q => absurd q (by simp))
  refine Road.aloadN 9 bAs000_d9 rfl ?_
  refine Road.callV (B' := bLe1) (a := s) 10 (argsL := []) (rest := []) "java/lang/String" 0 bAs000_d10 (wI hw 80 rfl) (wI hw 81 rfl) (fun vm hz => Road.notFace_sib (args := #[]) (mv (s := D.s.setVm vm) hz (wI hw 83 rfl)) rfl) (wI hw 83 rfl) (wI hw 82 rfl) (wI hw 7 rfl) (wI hw 84 rfl) (by decide) T.1 (cLe1 l Z a0 hw n0 hEW s sb ds h0 σ T cp Hc hcp) (lenOf bLe1_pd rfl) rfl rfl rfl (by decide) (by decide) (ce' := 0) (sl' := 0) rfl rfl (by decide) (by decide) ?_
  rintro _ h_1 σ_2 m_3 ⟨rfl, rfl⟩
  refine Road.Go.weaken (σ' := σ) m_3 (Nat.le_refl _) (Nat.le_refl _) ?_
  refine Road.istoreN 13 #[.val (.ref q), .val (.ref s), .val (.int (Nat.toInt32 ds.length))] bAs000_d13 rfl ?_
  refine Road.aloadN 14 bAs000_d14 rfl ?_
  refine Road.aloadN 15 bAs000_d15 rfl ?_
  refine Road.getfield 16 bAs000_d16 (wI hw 90 rfl) Via.refl Fn ?_
  refine Road.iloadN 19 bAs000_d19 rfl ?_
  refine Road.iadd 20 bAs000_d20 ?_
  refine Road.nameI ?_
  intro z_5 hz_5
  obtain rfl : z_5 = (Nat.toInt32 (cs.length + ds.length)) := by rw [hz_5]; exact Road.add32n _ _
  refine Road.callP (B' := bEa1) (a := q) 21 (argsL := [(.int (Nat.toInt32 (cs.length + ds.length)))]) (rest := []) "java/lang/StringBuilder" 0 bAs000_d21 (wI hw 92 rfl) (wI hw 94 rfl) (wI hw 95 rfl) (wI hw 93 rfl) (wI hw 55 rfl) (wI hw 96 rfl) (by decide) E (cEa1 l Z a0 hw n0 hEW q b cs N (cs.length + ds.length) h0 σ S0 hm) (lenOf bEa1_pd rfl) rfl rfl rfl (by decide) (by decide) (ce' := 0) (sl' := 0) rfl rfl (by decide) (by decide) ?_
  rintro _ h_6 σ_7 m_8 ⟨rfl, rfl⟩
  refine Road.Go.weaken (σ' := σ) m_8 (Nat.le_refl _) (Nat.le_refl _) ?_
  refine Road.aloadN 24 bAs000_d24 rfl ?_
  refine Road.aloadN 25 bAs000_d25 rfl ?_
  refine Road.getfield 26 bAs000_d26 (wI hw 90 rfl) Via.refl Fn ?_
  refine Road.aloadN 29 bAs000_d29 rfl ?_
  refine Road.callP (B' := bPs11) (a := q) 30 (argsL := [(.int (Nat.toInt32 cs.length)), (.ref s)]) (rest := []) "java/lang/StringBuilder" 0 bAs000_d30 (wI hw 97 rfl) (wI hw 99 rfl) (wI hw 100 rfl) (wI hw 98 rfl) (wI hw 55 rfl) (wI hw 101 rfl) (by decide) E (cPs11 l Z a0 hw n0 hEW q b cs N s sb ds h0 σ S0 T hm hcap nsq nbq nsb nbb sb_ sq cp Hc hcp fm hfm Hf H0 H1 H2) (lenOf bPs11_pd rfl) rfl rfl rfl (by decide) (by decide) (ce' := 0) (sl' := 0) rfl rfl (by decide) (by decide) ?_
  rintro _ h_10 σ_11 m_12 ⟨rfl, K_13, d, ⟨E2, Fc2, Fv2, Fn2, ⟨r3, A3, hr3⟩, Fy2, EB2⟩, gd, sd⟩
  replace sq := m_12 _ sq
  replace sb_ := m_12 _ sb_
  replace E := E2
  replace Fc := Fc2
  replace Fv := Fv2
  replace Fn := Fn2
  have Fy := Fy2
  have nqd : q ≠ d := by obtain ⟨c, Ar, -⟩ := A3; exact ne_arr E (wI hw 46 rfl) Ar
  refine Road.aloadN 33 bAs000_d33 rfl ?_
  refine Road.dup 34 bAs000_d34 ?_
  refine Road.getfield 35 bAs000_d35 (wI hw 90 rfl) Via.refl Fn ?_
  refine Road.iloadN 38 bAs000_d38 rfl ?_
  refine Road.iadd 39 bAs000_d39 ?_
  refine Road.nameI ?_
  intro z_16 hz_16
  obtain rfl : z_16 = (Nat.toInt32 (cs ++ ds).length) := by rw [hz_16]; rw [Road.add32n, List.length_append]
  refine Road.putfield 40 bAs000_d40 (wI hw 90 rfl) Via.refl Fn E (Or.inl (wI hw 91 rfl)) (wI hw 46 rfl) (ty := .int) (by decide) rfl rfl sq ?_
  intro h_19 W_17 K_18
  replace Fn := Fn.same W_17
  replace Fc := Fc.other W_17 (Or.inr (slot_ne (Or.inl (wI hw 62 rfl)) (Or.inl (wI hw 91 rfl)) (by decide) (t := .byte) (by decide) (t' := .int) (by decide)))
  replace Fv := Fv.other W_17 (Or.inr (slot_ne (Or.inl (wI hw 60 rfl)) (Or.inl (wI hw 91 rfl)) (by decide) (t := (.array .byte)) (by decide) (t' := .int) (by decide)))
  replace Fy := Fy.other W_17 (Or.inr (slot_ne (Or.inl (wI hw 279 rfl)) (Or.inl (wI hw 91 rfl)) (by decide) (t := .boolean) (by decide) (t' := .int) (by decide)))
  replace E := E.keep K_18
  replace A3 := A3.keep K_18 (ninS (Ne.symm nqd) nin0)
  replace EB2 := EB2.keep K_18
  refine Road.aloadN 43 bAs000_d43 rfl ?_
  exact Road.aret 44 bAs000_d44 (t := (.object "java/lang/AbstractStringBuilder")) rfl rfl rfl (by decide) (by decide) (fun σ' m => ⟨rfl, (K_13.trans K_18 (by simp)), d, ⟨E, Fc, Fv, Fn, ⟨r3, A3, hr3⟩, fun c hc => (List.mem_append.mp hc).elim (fun hc => (hlt c hc)) (fun hc => ((T.2.2.2.2.1) c hc)), Fy, EB2⟩, gd, m _ sd⟩)
def bSs110 : Road.Bdy := (⟨"java/lang/StringBuilder", "append", "(Ljava/lang/String;)Ljava/lang/StringBuilder;"⟩, jdk_67_method_7_code, 2, (some (.object "java/lang/StringBuilder")), { frames := 4, cells := 0, slots := 0, locals := 62 })
theorem bSs110_pd : parseMethodDescriptor "(Ljava/lang/String;)Ljava/lang/StringBuilder;" = some ⟨[(.object "java/lang/String")], (some (.object "java/lang/StringBuilder"))⟩ := by decide +kernel
theorem bSs110_pn : plainFor bSs110.y = true := plainFor_of_name (show plainName "java/lang/StringBuilder" = true from by first | (simp [plainName, overriddenIn]; done) | decide +kernel)
theorem cSs110 (l : Launch) (Z : State) (a0 : Array Value) (hw : ∀ d ∈ tables_1, d.before a0 Z = true) (n0 : Nat) (hEW : EW Z a0 consts_1) (q b : Addr) (cs : List Int32) (N : Nat) (s sb : Addr) (ds : List Int32) (h0 : Heap) (σ : Addr → Prop) (S : Road.Sb1 Z h0 q b cs N) (T : Road.Str16 Z h0 s sb ds) (hm : cs.length + ds.length ≤ N) (hcap : N ≤ 34) (nsq : s ≠ q) (nbq : sb ≠ q) (nsb : s ≠ b) (nbb : sb ≠ b) (sb_ : σ b) (sq : σ q) (cp : Int32) (Hc : Sta Z Z.heap Road.SN "COMPACT_STRINGS" "Z" (.int cp)) (hcp : ¬ cp = 0) (fm : Value) (hfm : fm.isRef = true) (Hf : Sta Z Z.heap "jdk/internal/util/Preconditions" "SIOOBE_FORMATTER" "Ljava/util/function/BiFunction;" fm) (H0 : Sta Z Z.heap "java/lang/StringUTF16" "$assertionsDisabled" "Z" (.int 1)) (H1 : Sta Z Z.heap "java/lang/StringUTF16" "HI_BYTE_SHIFT" "I" (.int 0)) (H2 : Sta Z Z.heap "java/lang/StringUTF16" "LO_BYTE_SHIFT" "I" (.int 8)) :
    Road.Con l Z consts_1 n0 false bSs110 [] σ #[(.ref q), (.ref s)] h0 (fun v h2 s2 => v = some (.ref q) ∧ Keep h0 h2 [q, b] ∧ ∃ d, Road.Sb1 Z h2 q d (cs ++ ds) N ∧ (d = b ∨ h0.size ≤ d) ∧ s2 d) := by
  refine Road.Con.of bSs110_pn hEW #[.val (.ref q), .val (.ref s)] (fun m => Road.ent (Road.laid1 rfl (Road.laid1 rfl Road.laid0)) (k := 0) rfl rfl) ?_
  intro D hD
  refine Road.aloadN 0 bSs000_d0 rfl ?_
  refine Road.aloadN 1 bSs000_d1 rfl ?_
  refine Road.callUp (B' := bAs110) (a := q) 2 (argsL := [(.ref s)]) (rest := []) "java/lang/StringBuilder" 0 bSs000_d2 (wI hw 75 rfl) (Road.notFace_sib (wI hw 95 rfl) rfl) (wI hw 76 rfl) (wI hw 77 rfl) (wI hw 55 rfl) (wI hw 79 rfl) (by decide) (by decide) S.1 (cAs110 l Z a0 hw n0 hEW q b cs N s sb ds h0 σ S T hm hcap nsq nbq nsb nbb sb_ sq cp Hc hcp fm hfm Hf H0 H1 H2) (lenOf bAs110_pd rfl) rfl rfl rfl (by decide) (by decide) (ce' := 0) (sl' := 0) rfl rfl (by decide) (by decide) ?_
  rintro _ h_1 σ_2 m_3 ⟨rfl, K_4, d, S2, gd, sd⟩
  refine Road.pop 5 bSs000_d5 ?_
  refine Road.aloadN 6 bSs000_d6 rfl ?_
  exact Road.aret 7 bSs000_d7 (t := (.object "java/lang/StringBuilder")) rfl rfl rfl (by decide) (by decide) (fun σ' m => ⟨rfl, K_4, d, S2, gd, m _ sd⟩)
def bAs111 : Road.Bdy := (⟨"java/lang/AbstractStringBuilder", "append", "(Ljava/lang/String;)Ljava/lang/AbstractStringBuilder;"⟩, jdk_68_method_22_code, 3, (some (.object "java/lang/AbstractStringBuilder")), { frames := 4, cells := 1, slots := 68, locals := 63 })
theorem bAs111_pd : parseMethodDescriptor "(Ljava/lang/String;)Ljava/lang/AbstractStringBuilder;" = some ⟨[(.object "java/lang/String")], (some (.object "java/lang/AbstractStringBuilder"))⟩ := by decide +kernel
theorem bAs111_pn : plainFor bAs111.y = true := plainFor_of_name (show plainName "java/lang/AbstractStringBuilder" = true from by first | (simp [plainName, overriddenIn]; done) | decide +kernel)
theorem cAs111 (l : Launch) (Z : State) (a0 : Array Value) (hw : ∀ d ∈ tables_1, d.before a0 Z = true) (n0 : Nat) (hEW : EW Z a0 consts_1) (q b : Addr) (cs : List Int32) (N : Nat) (s sb : Addr) (ds : List Int32) (h0 : Heap) (σ : Addr → Prop) (S : Road.Sb1 Z h0 q b cs N) (T : Road.Str16 Z h0 s sb ds) (hm : N < cs.length + ds.length) (hcap : (max (cs.length + ds.length) (2 * N + 2)) ≤ 34) (nsq : s ≠ q) (nbq : sb ≠ q) (nsb : s ≠ b) (nbb : sb ≠ b) (sb_ : σ b) (sq : σ q) (cp : Int32) (Hc : Sta Z Z.heap Road.SN "COMPACT_STRINGS" "Z" (.int cp)) (hcp : ¬ cp = 0) (fm : Value) (hfm : fm.isRef = true) (Hf : Sta Z Z.heap "jdk/internal/util/Preconditions" "SIOOBE_FORMATTER" "Ljava/util/function/BiFunction;" fm) (H0 : Sta Z Z.heap "java/lang/StringUTF16" "$assertionsDisabled" "Z" (.int 1)) (H1 : Sta Z Z.heap "java/lang/StringUTF16" "HI_BYTE_SHIFT" "I" (.int 0)) (H2 : Sta Z Z.heap "java/lang/StringUTF16" "LO_BYTE_SHIFT" "I" (.int 8)) :
    Road.Con l Z consts_1 n0 false bAs111 [] σ #[(.ref q), (.ref s)] h0 (fun v h2 s2 => v = some (.ref q) ∧ Keep h0 h2 [q, b] ∧ ∃ d, Road.Sb1 Z h2 q d (cs ++ ds) (max (cs.length + ds.length) (2 * N + 2)) ∧ (d = b ∨ h0.size ≤ d) ∧ s2 d) := by
  have hN := S.small
  have hle := S.le
  have S0 := S
  obtain ⟨E, Fc, Fv, Fn, ⟨r, Ab, hr⟩, hlt, Fy, EB⟩ := S
  refine Road.Con.of bAs111_pn hEW #[.val (.ref q), .val (.ref s), .unset] (fun m => Road.ent (Road.laid1 rfl (Road.laid1 rfl Road.laid0)) (k := 1) rfl rfl) ?_
  intro D hD
  clear EB
  refine Road.aloadN 0 bAs000_d0 rfl ?_
  refine Road.ifnonnull 1 9 rfl bAs000_d1 rfl (fun hc1 => ?_) (fun q => absurd q (by simp))
  refine Road.aloadN 9 bAs000_d9 rfl ?_
  refine Road.callV (B' := bLe1) (a := s) 10 (argsL := []) (rest := []) "java/lang/String" 0 bAs000_d10 (wI hw 80 rfl) (wI hw 81 rfl) (fun vm hz => Road.notFace_sib (args := #[]) (mv (s := D.s.setVm vm) hz (wI hw 83 rfl)) rfl) (wI hw 83 rfl) (wI hw 82 rfl) (wI hw 7 rfl) (wI hw 84 rfl) (by decide) T.1 (cLe1 l Z a0 hw n0 hEW s sb ds h0 σ T cp Hc hcp) (lenOf bLe1_pd rfl) rfl rfl rfl (by decide) (by decide) (ce' := 0) (sl' := 0) rfl rfl (by decide) (by decide) ?_
  rintro _ h_1 σ_2 m_3 ⟨rfl, rfl⟩
  refine Road.Go.weaken (σ' := σ) m_3 (Nat.le_refl _) (Nat.le_refl _) ?_
  refine Road.istoreN 13 #[.val (.ref q), .val (.ref s), .val (.int (Nat.toInt32 ds.length))] bAs000_d13 rfl ?_
  refine Road.aloadN 14 bAs000_d14 rfl ?_
  refine Road.aloadN 15 bAs000_d15 rfl ?_
  refine Road.getfield 16 bAs000_d16 (wI hw 90 rfl) Via.refl Fn ?_
  refine Road.iloadN 19 bAs000_d19 rfl ?_
  refine Road.iadd 20 bAs000_d20 ?_
  refine Road.nameI ?_
  intro z_5 hz_5
  obtain rfl : z_5 = (Nat.toInt32 (cs.length + ds.length)) := by rw [hz_5]; exact Road.add32n _ _
  have ts := T.lt
  have tb := T.ltb
  refine Road.callP (B' := bEg1) (a := q) 21 (argsL := [(.int (Nat.toInt32 (cs.length + ds.length)))]) (rest := []) "java/lang/StringBuilder" 0 bAs000_d21 (wI hw 92 rfl) (wI hw 94 rfl) (wI hw 95 rfl) (wI hw 93 rfl) (wI hw 55 rfl) (wI hw 96 rfl) (by decide) E (cEg1 l Z a0 hw n0 hEW q b cs N (cs.length + ds.length) h0 σ S0 hm hcap sq) (lenOf bEg1_pd rfl) rfl rfl rfl (by decide) (by decide) (ce' := 1) (sl' := 68) rfl rfl (by decide) (by decide) ?_
  rintro _ h_6 σ_7 m_8 ⟨rfl, K_9, b2, S2, g2, s2⟩
  replace T := T.keep K_9 (ninS nsq nin0) (ninS nbq nin0)
  replace sq := m_8 _ sq
  replace sb_ := m_8 _ sb_
  clear E Fc Fv Fn Fy Ab
  have S3 := S2
  obtain ⟨E, Fc, Fv, Fn, -⟩ := S2
  refine Road.aloadN 24 bAs000_d24 rfl ?_
  refine Road.aloadN 25 bAs000_d25 rfl ?_
  refine Road.getfield 26 bAs000_d26 (wI hw 90 rfl) Via.refl Fn ?_
  refine Road.aloadN 29 bAs000_d29 rfl ?_
  refine Road.callP (B' := bPs11) (a := q) 30 (argsL := [(.int (Nat.toInt32 cs.length)), (.ref s)]) (rest := []) "java/lang/StringBuilder" 0 bAs000_d30 (wI hw 97 rfl) (wI hw 99 rfl) (wI hw 100 rfl) (wI hw 98 rfl) (wI hw 55 rfl) (wI hw 101 rfl) (by decide) E (cPs11 l Z a0 hw n0 hEW q b2 cs (max (cs.length + ds.length) (2 * N + 2)) s sb ds h_6 σ_7 S3 T (by omega) hcap nsq nbq (Nat.ne_of_lt (Nat.lt_of_lt_of_le ts g2)) (Nat.ne_of_lt (Nat.lt_of_lt_of_le tb g2)) s2 sq cp Hc hcp fm hfm Hf H0 H1 H2) (lenOf bPs11_pd rfl) rfl rfl rfl (by decide) (by decide) (ce' := 1) (sl' := 68) rfl rfl (by decide) (by decide) ?_
  rintro _ h_12 σ_13 m_14 ⟨rfl, K_15, d, ⟨E2, Fc2, Fv2, Fn2, ⟨r3, A3, hr3⟩, Fy2, EB2⟩, gd, sd⟩
  replace sq := m_14 _ sq
  replace sb_ := m_14 _ sb_
  replace s2 := m_14 _ s2
  replace E := E2
  replace Fc := Fc2
  replace Fv := Fv2
  replace Fn := Fn2
  have Fy := Fy2
  have nqd : q ≠ d := by obtain ⟨c, Ar, -⟩ := A3; exact ne_arr E (wI hw 46 rfl) Ar
  refine Road.aloadN 33 bAs000_d33 rfl ?_
  refine Road.dup 34 bAs000_d34 ?_
  refine Road.getfield 35 bAs000_d35 (wI hw 90 rfl) Via.refl Fn ?_
  refine Road.iloadN 38 bAs000_d38 rfl ?_
  refine Road.iadd 39 bAs000_d39 ?_
  refine Road.nameI ?_
  intro z_19 hz_19
  obtain rfl : z_19 = (Nat.toInt32 (cs ++ ds).length) := by rw [hz_19]; rw [Road.add32n, List.length_append]
  refine Road.putfield 40 bAs000_d40 (wI hw 90 rfl) Via.refl Fn E (Or.inl (wI hw 91 rfl)) (wI hw 46 rfl) (ty := .int) (by decide) rfl rfl sq ?_
  intro h_22 W_20 K_21
  replace Fn := Fn.same W_20
  replace Fc := Fc.other W_20 (Or.inr (slot_ne (Or.inl (wI hw 62 rfl)) (Or.inl (wI hw 91 rfl)) (by decide) (t := .byte) (by decide) (t' := .int) (by decide)))
  replace Fv := Fv.other W_20 (Or.inr (slot_ne (Or.inl (wI hw 60 rfl)) (Or.inl (wI hw 91 rfl)) (by decide) (t := (.array .byte)) (by decide) (t' := .int) (by decide)))
  replace Fy := Fy.other W_20 (Or.inr (slot_ne (Or.inl (wI hw 279 rfl)) (Or.inl (wI hw 91 rfl)) (by decide) (t := .boolean) (by decide) (t' := .int) (by decide)))
  replace E := E.keep K_21
  replace A3 := A3.keep K_21 (ninS (Ne.symm nqd) nin0)
  replace EB2 := EB2.keep K_21
  refine Road.aloadN 43 bAs000_d43 rfl ?_
  exact Road.aret 44 bAs000_d44 (t := (.object "java/lang/AbstractStringBuilder")) rfl rfl rfl (by decide) (by decide) (fun σ' m => ⟨rfl, (Road.keep_sub ((K_9.trans (ws' := [q, b2]) K_15 (by intro x hx; simp only [List.mem_cons, List.not_mem_nil, or_false] at hx; rcases hx with rfl | rfl; exact Or.inl (by simp); exact Or.inr g2)).trans K_21 (by simp)) (by simp)), d, ⟨E, Fc, Fv, Fn, ⟨r3, A3, hr3⟩, fun c hc => (List.mem_append.mp hc).elim (fun hc => (hlt c hc)) (fun hc => ((T.2.2.2.2.1) c hc)), Fy, EB2⟩, (gd.elim (fun z => Or.inr (by rw [z]; exact g2)) (fun z => Or.inr (Nat.le_trans K_9.1 z))), m _ sd⟩)
def bSs111 : Road.Bdy := (⟨"java/lang/StringBuilder", "append", "(Ljava/lang/String;)Ljava/lang/StringBuilder;"⟩, jdk_67_method_7_code, 2, (some (.object "java/lang/StringBuilder")), { frames := 5, cells := 1, slots := 68, locals := 77 })
theorem bSs111_pd : parseMethodDescriptor "(Ljava/lang/String;)Ljava/lang/StringBuilder;" = some ⟨[(.object "java/lang/String")], (some (.object "java/lang/StringBuilder"))⟩ := by decide +kernel
theorem bSs111_pn : plainFor bSs111.y = true := plainFor_of_name (show plainName "java/lang/StringBuilder" = true from by first | (simp [plainName, overriddenIn]; done) | decide +kernel)
theorem cSs111 (l : Launch) (Z : State) (a0 : Array Value) (hw : ∀ d ∈ tables_1, d.before a0 Z = true) (n0 : Nat) (hEW : EW Z a0 consts_1) (q b : Addr) (cs : List Int32) (N : Nat) (s sb : Addr) (ds : List Int32) (h0 : Heap) (σ : Addr → Prop) (S : Road.Sb1 Z h0 q b cs N) (T : Road.Str16 Z h0 s sb ds) (hm : N < cs.length + ds.length) (hcap : (max (cs.length + ds.length) (2 * N + 2)) ≤ 34) (nsq : s ≠ q) (nbq : sb ≠ q) (nsb : s ≠ b) (nbb : sb ≠ b) (sb_ : σ b) (sq : σ q) (cp : Int32) (Hc : Sta Z Z.heap Road.SN "COMPACT_STRINGS" "Z" (.int cp)) (hcp : ¬ cp = 0) (fm : Value) (hfm : fm.isRef = true) (Hf : Sta Z Z.heap "jdk/internal/util/Preconditions" "SIOOBE_FORMATTER" "Ljava/util/function/BiFunction;" fm) (H0 : Sta Z Z.heap "java/lang/StringUTF16" "$assertionsDisabled" "Z" (.int 1)) (H1 : Sta Z Z.heap "java/lang/StringUTF16" "HI_BYTE_SHIFT" "I" (.int 0)) (H2 : Sta Z Z.heap "java/lang/StringUTF16" "LO_BYTE_SHIFT" "I" (.int 8)) :
    Road.Con l Z consts_1 n0 false bSs111 [] σ #[(.ref q), (.ref s)] h0 (fun v h2 s2 => v = some (.ref q) ∧ Keep h0 h2 [q, b] ∧ ∃ d, Road.Sb1 Z h2 q d (cs ++ ds) (max (cs.length + ds.length) (2 * N + 2)) ∧ (d = b ∨ h0.size ≤ d) ∧ s2 d) := by
  refine Road.Con.of bSs111_pn hEW #[.val (.ref q), .val (.ref s)] (fun m => Road.ent (Road.laid1 rfl (Road.laid1 rfl Road.laid0)) (k := 0) rfl rfl) ?_
  intro D hD
  refine Road.aloadN 0 bSs000_d0 rfl ?_
  refine Road.aloadN 1 bSs000_d1 rfl ?_
  refine Road.callUp (B' := bAs111) (a := q) 2 (argsL := [(.ref s)]) (rest := []) "java/lang/StringBuilder" 0 bSs000_d2 (wI hw 75 rfl) (Road.notFace_sib (wI hw 95 rfl) rfl) (wI hw 76 rfl) (wI hw 77 rfl) (wI hw 55 rfl) (wI hw 79 rfl) (by decide) (by decide) S.1 (cAs111 l Z a0 hw n0 hEW q b cs N s sb ds h0 σ S T hm hcap nsq nbq nsb nbb sb_ sq cp Hc hcp fm hfm Hf H0 H1 H2) (lenOf bAs111_pd rfl) rfl rfl rfl (by decide) (by decide) (ce' := 1) (sl' := 68) rfl rfl (by decide) (by decide) ?_
  rintro _ h_1 σ_2 m_3 ⟨rfl, K_4, d, S2, gd, sd⟩
  refine Road.pop 5 bSs000_d5 ?_
  refine Road.aloadN 6 bSs000_d6 rfl ?_
  exact Road.aret 7 bSs000_d7 (t := (.object "java/lang/StringBuilder")) rfl rfl rfl (by decide) (by decide) (fun σ' m => ⟨rfl, K_4, d, S2, gd, m _ sd⟩)
def bUci : Road.Bdy := (⟨"java/lang/StringUTF16", "checkIndex", "(I[B)V"⟩, jdk_52_method_91_code, 2, none, { frames := 2, cells := 0, slots := 0, locals := 27 })
theorem bUci_d0 : decode bUci.bs 0 = .ok (.iload_n 0, 1) := by decide +kernel
theorem bUci_d1 : decode bUci.bs 1 = .ok (.aload_n 1, 1) := by decide +kernel
theorem bUci_d2 : decode bUci.bs 2 = .ok (.invokestatic 48, 3) := by decide +kernel
theorem bUci_d5 : decode bUci.bs 5 = .ok (.invokestatic 414, 3) := by decide +kernel
theorem bUci_d8 : decode bUci.bs 8 = .ok (.return_, 1) := by decide +kernel
theorem bUci_pd : parseMethodDescriptor "(I[B)V" = some ⟨[.int, (.array .byte)], none⟩ := by decide +kernel
theorem bUci_pn : plainFor bUci.y = true := plainFor_of_name (show plainName "java/lang/StringUTF16" = true from by first | (simp [plainName, overriddenIn]; done) | decide +kernel)
theorem cUci (l : Launch) (Z : State) (a0 : Array Value) (hw : ∀ d ∈ tables_1, d.before a0 Z = true) (n0 : Nat) (hEW : EW Z a0 consts_1) (b : Addr) (vs : List Value) (i n : Nat) (h0 : Heap) (σ : Addr → Prop) (A : Road.Ary Z h0 b .byte vs) (hv : vs.length = 2 * n) (hi : i < n) (fm : Value) (hfm : fm.isRef = true) (Hf : Sta Z Z.heap "jdk/internal/util/Preconditions" "SIOOBE_FORMATTER" "Ljava/util/function/BiFunction;" fm) :
    Road.Con l Z consts_1 n0 false bUci [] σ #[(.int (Nat.toInt32 i)), (.ref b)] h0 (fun v h2 _ => v = none ∧ h0 = h2) := by
  have hsm := A.small
  refine Road.Con.of bUci_pn hEW #[.val (.int (Nat.toInt32 i)), .val (.ref b)] (fun m => Road.ent (Road.laid1 rfl (Road.laid1 rfl Road.laid0)) (k := 0) rfl rfl) ?_
  intro D hD
  refine Road.iloadN 0 bUci_d0 rfl ?_
  refine Road.aloadN 1 bUci_d1 rfl ?_
  refine Road.callS (B' := bUl) 2 (argsL := [(.ref b)]) (rest := [(.int (Nat.toInt32 i))]) 1 bUci_d2 (wI hw 261 rfl) (wI hw 262 rfl) (wI hw 22 rfl) (wI hw 263 rfl) (by decide) (cUl l Z a0 hw n0 hEW b vs n h0 σ A hv) (lenOf bUl_pd rfl) rfl rfl rfl (by decide) (by decide) (ce' := 0) (sl' := 0) rfl rfl (by decide) (by decide) ?_
  rintro _ h_1 σ_2 m_3 ⟨rfl, rfl⟩
  refine Road.Go.weaken (σ' := σ) m_3 (Nat.le_refl _) (Nat.le_refl _) ?_
  refine Road.callS (B' := bChk) 5 (argsL := [(.int (Nat.toInt32 i)), (.int (Nat.toInt32 n))]) (rest := []) 0 bUci_d5 (wI hw 276 rfl) (wI hw 211 rfl) (wI hw 7 rfl) (wI hw 212 rfl) (by decide) (cChk l Z a0 hw n0 hEW (Nat.toInt32 i) (Nat.toInt32 n) h0 σ fm hfm Hf (Road.ix_of (Road.n32 (by omega))).1 (by rw [Road.lt32 (by omega) (by omega)]; exact hi)) (lenOf bChk_pd rfl) rfl rfl rfl (by decide) (by decide) (ce' := 0) (sl' := 0) rfl rfl (by decide) (by decide) ?_
  rintro _ h_5 σ_6 m_7 ⟨rfl, rfl⟩
  refine Road.Go.weaken (σ' := σ) m_7 (Nat.le_refl _) (Nat.le_refl _) ?_
  exact Road.ret 8 bUci_d8 rfl (by decide) (by decide) (fun σ' m => ⟨rfl, rfl⟩)
def bPsb : Road.Bdy := (⟨"java/lang/StringUTF16", "putCharSB", "([BII)V"⟩, jdk_52_method_71_code, 3, none, { frames := 3, cells := 0, slots := 0, locals := 40 })
theorem bPsb_d0 : decode bPsb.bs 0 = .ok (.iload_n 1, 1) := by decide +kernel
theorem bPsb_d1 : decode bPsb.bs 1 = .ok (.aload_n 0, 1) := by decide +kernel
theorem bPsb_d2 : decode bPsb.bs 2 = .ok (.invokestatic 67, 3) := by decide +kernel
theorem bPsb_d5 : decode bPsb.bs 5 = .ok (.aload_n 0, 1) := by decide +kernel
theorem bPsb_d6 : decode bPsb.bs 6 = .ok (.iload_n 1, 1) := by decide +kernel
theorem bPsb_d7 : decode bPsb.bs 7 = .ok (.iload_n 2, 1) := by decide +kernel
theorem bPsb_d8 : decode bPsb.bs 8 = .ok (.invokestatic 111, 3) := by decide +kernel
theorem bPsb_d11 : decode bPsb.bs 11 = .ok (.return_, 1) := by decide +kernel
theorem bPsb_pd : parseMethodDescriptor "([BII)V" = some ⟨[(.array .byte), .int, .int], none⟩ := by decide +kernel
theorem bPsb_pn : plainFor bPsb.y = true := plainFor_of_name (show plainName "java/lang/StringUTF16" = true from by first | (simp [plainName, overriddenIn]; done) | decide +kernel)
theorem cPsb (l : Launch) (Z : State) (a0 : Array Value) (hw : ∀ d ∈ tables_1, d.before a0 Z = true) (n0 : Nat) (hEW : EW Z a0 consts_1) (d : Addr) (cs : List Int32) (r : List Value) (n : Nat) (x : Int32) (h0 : Heap) (σ : Addr → Prop) (A : Road.Ary Z h0 d .byte (Road.utf cs ++ r)) (hr : 2 * cs.length + r.length = 2 * n) (hi : cs.length < n) (sd : σ d) (fm : Value) (hfm : fm.isRef = true) (Hf : Sta Z Z.heap "jdk/internal/util/Preconditions" "SIOOBE_FORMATTER" "Ljava/util/function/BiFunction;" fm) (H0 : Sta Z Z.heap "java/lang/StringUTF16" "$assertionsDisabled" "Z" (.int 1)) (H1 : Sta Z Z.heap "java/lang/StringUTF16" "HI_BYTE_SHIFT" "I" (.int 0)) (H2 : Sta Z Z.heap "java/lang/StringUTF16" "LO_BYTE_SHIFT" "I" (.int 8)) :
    Road.Con l Z consts_1 n0 false bPsb [] σ #[(.ref d), (.int (Nat.toInt32 cs.length)), (.int x)] h0 (fun v h2 _ => v = none ∧ Keep h0 h2 [d] ∧ Road.Ary Z h2 d .byte (Road.utf (cs ++ [x]) ++ r.drop 2)) := by
  refine Road.Con.of bPsb_pn hEW #[.val (.ref d), .val (.int (Nat.toInt32 cs.length)), .val (.int x)] (fun m => Road.ent (Road.laid1 rfl (Road.laid1 rfl (Road.laid1 rfl Road.laid0))) (k := 0) rfl rfl) ?_
  intro D hD
  refine Road.iloadN 0 bPsb_d0 rfl ?_
  refine Road.aloadN 1 bPsb_d1 rfl ?_
  refine Road.callS (B' := bUci) 2 (argsL := [(.int (Nat.toInt32 cs.length)), (.ref d)]) (rest := []) 0 bPsb_d2 (wI hw 273 rfl) (wI hw 274 rfl) (wI hw 22 rfl) (wI hw 275 rfl) (by decide) (cUci l Z a0 hw n0 hEW d _ cs.length n h0 σ A (by simp only [List.length_append, List.length_map, Road.utf_len, List.length_replicate, List.length_drop, List.length_cons, List.length_nil]; omega) hi fm hfm Hf) (lenOf bUci_pd rfl) rfl rfl rfl (by decide) (by decide) (ce' := 0) (sl' := 0) rfl rfl (by decide) (by decide) ?_
  rintro _ h_1 σ_2 m_3 ⟨rfl, rfl⟩
  refine Road.Go.weaken (σ' := σ) m_3 (Nat.le_refl _) (Nat.le_refl _) ?_
  refine Road.aloadN 5 bPsb_d5 rfl ?_
  refine Road.iloadN 6 bPsb_d6 rfl ?_
  refine Road.iloadN 7 bPsb_d7 rfl ?_
  refine Road.callS (B' := bPch) 8 (argsL := [(.ref d), (.int (Nat.toInt32 cs.length)), (.int x)]) (rest := []) 0 bPsb_d8 (wI hw 237 rfl) (wI hw 238 rfl) (wI hw 22 rfl) (wI hw 239 rfl) (by decide) (cPch l Z a0 hw n0 hEW d _ cs.length x h0 σ A (by simp only [List.length_append, List.length_map, Road.utf_len, List.length_replicate, List.length_drop, List.length_cons, List.length_nil]; omega) sd H0 H1 H2) (lenOf bPch_pd rfl) rfl rfl rfl (by decide) (by decide) (ce' := 0) (sl' := 0) rfl rfl (by decide) (by decide) ?_
  rintro _ h_5 σ_6 m_7 ⟨rfl, K_8, A2⟩
  rw [Road.utf_put_chr _ _ _ (by omega)] at A2
  exact Road.ret 11 bPsb_d11 rfl (by decide) (by decide) (fun σ' m => ⟨rfl, K_8, A2⟩)
def bAh00 : Road.Bdy := (⟨"java/lang/AbstractStringBuilder", "append", "(C)Ljava/lang/AbstractStringBuilder;"⟩, jdk_68_method_31_code, 2, (some (.object "java/lang/AbstractStringBuilder")), { frames := 1, cells := 0, slots := 0, locals := 14 })
theorem bAh00_d0 : decode bAh00.bs 0 = .ok (.aload_n 0, 1) := by decide +kernel
theorem bAh00_d1 : decode bAh00.bs 1 = .ok (.aload_n 0, 1) := by decide +kernel
theorem bAh00_d2 : decode bAh00.bs 2 = .ok (.getfield 79, 3) := by decide +kernel
theorem bAh00_d5 : decode bAh00.bs 5 = .ok (.iconst 1, 1) := by decide +kernel
theorem bAh00_d6 : decode bAh00.bs 6 = .ok (.iadd, 1) := by decide +kernel
theorem bAh00_d7 : decode bAh00.bs 7 = .ok (.invokevirtual 100, 3) := by decide +kernel
theorem bAh00_d10 : decode bAh00.bs 10 = .ok (.aload_n 0, 1) := by decide +kernel
theorem bAh00_d11 : decode bAh00.bs 11 = .ok (.invokevirtual 83, 3) := by decide +kernel
theorem bAh00_d14 : decode bAh00.bs 14 = .ok (.ifCond .eq 31, 3) := by decide +kernel
theorem bAh00_d17 : decode bAh00.bs 17 = .ok (.iload_n 1, 1) := by decide +kernel
theorem bAh00_d18 : decode bAh00.bs 18 = .ok (.invokestatic 191, 3) := by decide +kernel
theorem bAh00_d21 : decode bAh00.bs 21 = .ok (.ifCond .eq 24, 3) := by decide +kernel
theorem bAh00_d24 : decode bAh00.bs 24 = .ok (.aload_n 0, 1) := by decide +kernel
theorem bAh00_d25 : decode bAh00.bs 25 = .ok (.getfield 15, 3) := by decide +kernel
theorem bAh00_d28 : decode bAh00.bs 28 = .ok (.aload_n 0, 1) := by decide +kernel
theorem bAh00_d29 : decode bAh00.bs 29 = .ok (.dup, 1) := by decide +kernel
theorem bAh00_d30 : decode bAh00.bs 30 = .ok (.getfield 79, 3) := by decide +kernel
theorem bAh00_d33 : decode bAh00.bs 33 = .ok (.dup_x1, 1) := by decide +kernel
theorem bAh00_d34 : decode bAh00.bs 34 = .ok (.iconst 1, 1) := by decide +kernel
theorem bAh00_d35 : decode bAh00.bs 35 = .ok (.iadd, 1) := by decide +kernel
theorem bAh00_d36 : decode bAh00.bs 36 = .ok (.putfield 79, 3) := by decide +kernel
theorem bAh00_d39 : decode bAh00.bs 39 = .ok (.iload_n 1, 1) := by decide +kernel
theorem bAh00_d40 : decode bAh00.bs 40 = .ok (.i2b, 1) := by decide +kernel
theorem bAh00_d41 : decode bAh00.bs 41 = .ok (.bastore, 1) := by decide +kernel
theorem bAh00_d42 : decode bAh00.bs 42 = .ok (.goto 33, 3) := by decide +kernel
theorem bAh00_d45 : decode bAh00.bs 45 = .ok (.aload_n 0, 1) := by decide +kernel
theorem bAh00_d46 : decode bAh00.bs 46 = .ok (.invokevirtual 83, 3) := by decide +kernel
theorem bAh00_d49 : decode bAh00.bs 49 = .ok (.ifCond .eq 7, 3) := by decide +kernel
theorem bAh00_d52 : decode bAh00.bs 52 = .ok (.aload_n 0, 1) := by decide +kernel
theorem bAh00_d53 : decode bAh00.bs 53 = .ok (.invokevirtual 195, 3) := by decide +kernel
theorem bAh00_d56 : decode bAh00.bs 56 = .ok (.aload_n 0, 1) := by decide +kernel
theorem bAh00_d57 : decode bAh00.bs 57 = .ok (.getfield 15, 3) := by decide +kernel
theorem bAh00_d60 : decode bAh00.bs 60 = .ok (.aload_n 0, 1) := by decide +kernel
theorem bAh00_d61 : decode bAh00.bs 61 = .ok (.dup, 1) := by decide +kernel
theorem bAh00_d62 : decode bAh00.bs 62 = .ok (.getfield 79, 3) := by decide +kernel
theorem bAh00_d65 : decode bAh00.bs 65 = .ok (.dup_x1, 1) := by decide +kernel
theorem bAh00_d66 : decode bAh00.bs 66 = .ok (.iconst 1, 1) := by decide +kernel
theorem bAh00_d67 : decode bAh00.bs 67 = .ok (.iadd, 1) := by decide +kernel
theorem bAh00_d68 : decode bAh00.bs 68 = .ok (.putfield 79, 3) := by decide +kernel
theorem bAh00_d71 : decode bAh00.bs 71 = .ok (.iload_n 1, 1) := by decide +kernel
theorem bAh00_d72 : decode bAh00.bs 72 = .ok (.invokestatic 197, 3) := by decide +kernel
theorem bAh00_d75 : decode bAh00.bs 75 = .ok (.aload_n 0, 1) := by decide +kernel
theorem bAh00_d76 : decode bAh00.bs 76 = .ok (.areturn, 1) := by decide +kernel
theorem bAh00_pd : parseMethodDescriptor "(C)Ljava/lang/AbstractStringBuilder;" = some ⟨[.char], (some (.object "java/lang/AbstractStringBuilder"))⟩ := by decide +kernel
theorem bAh00_pn : plainFor bAh00.y = true := plainFor_of_name (show plainName "java/lang/AbstractStringBuilder" = true from by first | (simp [plainName, overriddenIn]; done) | decide +kernel)
theorem cAh00 (l : Launch) (Z : State) (a0 : Array Value) (hw : ∀ d ∈ tables_1, d.before a0 Z = true) (n0 : Nat) (hEW : EW Z a0 consts_1) (q b : Addr) (cs : List Int32) (N : Nat) (x : Int32) (h0 : Heap) (σ : Addr → Prop) (S : Road.Sb0 Z h0 q b cs N) (hx : 0 ≤ x.toInt ∧ x.toInt < 256) (hm : cs.length + 1 ≤ N) (sb_ : σ b) (sq : σ q) (cp : Int32) (Hc : Sta Z Z.heap Road.SN "COMPACT_STRINGS" "Z" (.int cp)) (hcp : ¬ cp = 0) (fm : Value) (hfm : fm.isRef = true) (Hf : Sta Z Z.heap "jdk/internal/util/Preconditions" "SIOOBE_FORMATTER" "Ljava/util/function/BiFunction;" fm) (H0 : Sta Z Z.heap "java/lang/StringUTF16" "$assertionsDisabled" "Z" (.int 1)) (H1 : Sta Z Z.heap "java/lang/StringUTF16" "HI_BYTE_SHIFT" "I" (.int 0)) (H2 : Sta Z Z.heap "java/lang/StringUTF16" "LO_BYTE_SHIFT" "I" (.int 8)) :
    Road.Con l Z consts_1 n0 false bAh00 [] σ #[(.ref q), (.int x)] h0 (fun v h2 s2 => v = some (.ref q) ∧ Keep h0 h2 [q, b] ∧ ∃ d, Road.Sb0 Z h2 q d (cs ++ [x]) N ∧ (d = b ∨ h0.size ≤ d) ∧ s2 d) := by
  have hN := S.small
  have hle := S.le
  have S0 := S
  obtain ⟨E, Fc, Fv, Fn, ⟨r, Ab, hr⟩, hlt, Fy, EB⟩ := S
  refine Road.Con.of bAh00_pn hEW #[.val (.ref q), .val (.int x)] (fun m => Road.ent (Road.laid1 rfl (Road.laid1 rfl Road.laid0)) (k := 0) rfl rfl) ?_
  intro D hD
  refine Road.aloadN 0 bAh00_d0 rfl ?_
  refine Road.aloadN 1 bAh00_d1 rfl ?_
  refine Road.getfield 2 bAh00_d2 (wI hw 90 rfl) Via.refl Fn ?_
  refine Road.iconst 5 (1 : Int32) bAh00_d5 rfl ?_
  refine Road.iadd 6 bAh00_d6 ?_
  refine Road.nameI ?_
  intro z_1 hz_1
  obtain rfl : z_1 = (Nat.toInt32 (cs.length + 1)) := by rw [hz_1]; exact Road.succ32 _
  refine Road.callP (B' := bEa0) (a := q) 7 (argsL := [(.int (Nat.toInt32 (cs.length + 1)))]) (rest := []) "java/lang/StringBuilder" 0 bAh00_d7 (wI hw 92 rfl) (wI hw 94 rfl) (wI hw 95 rfl) (wI hw 93 rfl) (wI hw 55 rfl) (wI hw 96 rfl) (by decide) E (cEa0 l Z a0 hw n0 hEW q b cs N (cs.length + 1) h0 σ S0 hm) (lenOf bEa0_pd rfl) rfl rfl rfl (by decide) (by decide) (ce' := 0) (sl' := 0) rfl rfl (by decide) (by decide) ?_
  rintro _ h_2 σ_3 m_4 ⟨rfl, rfl⟩
  refine Road.Go.weaken (σ' := σ) m_4 (Nat.le_refl _) (Nat.le_refl _) ?_
  have nqb : q ≠ b := by obtain ⟨c, Ar, -⟩ := Ab; exact ne_arr E (wI hw 46 rfl) Ar
  refine Road.aloadN 10 bAh00_d10 rfl ?_
  refine Road.callV (B' := bAL0) (a := q) 11 (argsL := []) (rest := []) "java/lang/StringBuilder" 0 bAh00_d11 (wI hw 131 rfl) (wI hw 132 rfl) (fun vm hz => Road.notFace_sib (args := #[]) (mv (s := D.s.setVm vm) hz (wI hw 95 rfl)) rfl) (wI hw 134 rfl) (wI hw 133 rfl) (wI hw 55 rfl) (wI hw 135 rfl) (by decide) E (cAL0 l Z a0 hw n0 hEW q h0 σ Fc cp Hc hcp) (lenOf bAL0_pd rfl) rfl rfl rfl (by decide) (by decide) (ce' := 0) (sl' := 0) rfl rfl (by decide) (by decide) ?_
  rintro _ h_6 σ_7 m_8 ⟨rfl, rfl⟩
  refine Road.Go.weaken (σ' := σ) m_8 (Nat.le_refl _) (Nat.le_refl _) ?_
  refine Road.if_eq 14 45 bAh00_d14 rfl (fun q => absurd q (by decide)) (fun hc14 => ?_)
  refine Road.iloadN 17 bAh00_d17 rfl ?_
  refine Road.callS (B' := bCan) 18 (argsL := [(.int x)]) (rest := []) 0 bAh00_d18 (wI hw 136 rfl) (wI hw 137 rfl) (wI hw 138 rfl) (wI hw 139 rfl) (by decide) (cCan l Z a0 hw n0 hEW x h0 σ hx) (lenOf bCan_pd rfl) rfl rfl rfl (by decide) (by decide) (ce' := 0) (sl' := 0) rfl rfl (by decide) (by decide) ?_
  rintro _ h_10 σ_11 m_12 ⟨rfl, rfl⟩
  refine Road.Go.weaken (σ' := σ) m_12 (Nat.le_refl _) (Nat.le_refl _) ?_
  refine Road.if_eq 21 45 bAh00_d21 rfl (fun q => absurd q (by decide)) (fun hc21 => ?_)
  refine Road.aloadN 24 bAh00_d24 rfl ?_
  refine Road.getfield 25 bAh00_d25 (wI hw 59 rfl) Via.refl Fv ?_
  refine Road.aloadN 28 bAh00_d28 rfl ?_
  refine Road.dup 29 bAh00_d29 ?_
  refine Road.getfield 30 bAh00_d30 (wI hw 90 rfl) Via.refl Fn ?_
  refine Road.dupX1 33 bAh00_d33 ?_
  refine Road.iconst 34 (1 : Int32) bAh00_d34 rfl ?_
  refine Road.iadd 35 bAh00_d35 ?_
  refine Road.nameI ?_
  intro z_14 hz_14
  obtain rfl : z_14 = (Nat.toInt32 (cs ++ [x]).length) := by rw [hz_14]; rw [List.length_append]; exact Road.succ32 _
  refine Road.putfield 36 bAh00_d36 (wI hw 90 rfl) Via.refl Fn E (Or.inl (wI hw 91 rfl)) (wI hw 46 rfl) (ty := .int) (by decide) rfl rfl sq ?_
  intro h_17 W_15 K_16
  replace Fn := Fn.same W_15
  replace Fc := Fc.other W_15 (Or.inr (slot_ne (Or.inl (wI hw 62 rfl)) (Or.inl (wI hw 91 rfl)) (by decide) (t := .byte) (by decide) (t' := .int) (by decide)))
  replace Fv := Fv.other W_15 (Or.inr (slot_ne (Or.inl (wI hw 60 rfl)) (Or.inl (wI hw 91 rfl)) (by decide) (t := (.array .byte)) (by decide) (t' := .int) (by decide)))
  replace Fy := Fy.other W_15 (Or.inr (slot_ne (Or.inl (wI hw 279 rfl)) (Or.inl (wI hw 91 rfl)) (by decide) (t := .boolean) (by decide) (t' := .int) (by decide)))
  replace E := E.keep K_16
  replace Ab := Ab.keep K_16 (ninS (Ne.symm nqb) nin0)
  replace EB := EB.keep K_16
  refine Road.iloadN 39 bAh00_d39 rfl ?_
  refine Road.i2b 40 bAh00_d40 ?_
  refine Road.bastore 41 cs.length (Int8.toInt32 (Int32.toInt8 x)) bAh00_d41 Ab (Road.n32 (by omega)) (by simp only [List.length_append, List.length_map, Road.utf_len, List.length_replicate, List.length_drop, List.length_cons, List.length_nil]; omega) (Road.nar_byte _) sb_ ?_
  intro h_18 K_19 A_20
  replace E := E.keep K_19
  replace Fc := Fc.keep K_19 (ninS nqb nin0)
  replace Fv := Fv.keep K_19 (ninS nqb nin0)
  replace Fn := Fn.keep K_19 (ninS nqb nin0)
  replace Fy := Fy.keep K_19 (ninS nqb nin0)
  replace EB := EB.keep K_19
  replace Ab := A_20
  rw [show (Value.int (Int8.toInt32 (Int32.toInt8 x))) = Road.byt x from rfl, Road.put_chr _ _ _ (by omega)] at Ab
  refine Road.goto 42 75 bAh00_d42 rfl ?_
  refine Road.aloadN 75 bAh00_d75 rfl ?_
  exact Road.aret 76 bAh00_d76 (t := (.object "java/lang/AbstractStringBuilder")) rfl rfl rfl (by decide) (by decide) (fun σ' m => ⟨rfl, ((Road.keep_sub (ws' := [q, b]) K_16 (by simp)).trans K_19 (by simp)), b, ⟨E, Fc, Fv, Fn, ⟨_, Ab, by simp only [List.length_append, List.length_map, Road.utf_len, List.length_replicate, List.length_drop, List.length_cons, List.length_nil]; omega⟩, fun c hc => (List.mem_append.mp hc).elim (hlt c) (fun hc => by cases List.mem_singleton.mp hc; exact hx), Fy, EB⟩, Or.inl rfl, m _ sb_⟩)
def bSh00 : Road.Bdy := (⟨"java/lang/StringBuilder", "append", "(C)Ljava/lang/StringBuilder;"⟩, jdk_67_method_14_code, 2, (some (.object "java/lang/StringBuilder")), { frames := 2, cells := 0, slots := 0, locals := 27 })
theorem bSh00_d0 : decode bSh00.bs 0 = .ok (.aload_n 0, 1) := by decide +kernel
theorem bSh00_d1 : decode bSh00.bs 1 = .ok (.iload_n 1, 1) := by decide +kernel
theorem bSh00_d2 : decode bSh00.bs 2 = .ok (.invokespecial 50, 3) := by decide +kernel
theorem bSh00_d5 : decode bSh00.bs 5 = .ok (.pop, 1) := by decide +kernel
theorem bSh00_d6 : decode bSh00.bs 6 = .ok (.aload_n 0, 1) := by decide +kernel
theorem bSh00_d7 : decode bSh00.bs 7 = .ok (.areturn, 1) := by decide +kernel
theorem bSh00_pd : parseMethodDescriptor "(C)Ljava/lang/StringBuilder;" = some ⟨[.char], (some (.object "java/lang/StringBuilder"))⟩ := by decide +kernel
theorem bSh00_pn : plainFor bSh00.y = true := plainFor_of_name (show plainName "java/lang/StringBuilder" = true from by first | (simp [plainName, overriddenIn]; done) | decide +kernel)
theorem cSh00 (l : Launch) (Z : State) (a0 : Array Value) (hw : ∀ d ∈ tables_1, d.before a0 Z = true) (n0 : Nat) (hEW : EW Z a0 consts_1) (q b : Addr) (cs : List Int32) (N : Nat) (x : Int32) (h0 : Heap) (σ : Addr → Prop) (S : Road.Sb0 Z h0 q b cs N) (hx : 0 ≤ x.toInt ∧ x.toInt < 256) (hm : cs.length + 1 ≤ N) (sb_ : σ b) (sq : σ q) (cp : Int32) (Hc : Sta Z Z.heap Road.SN "COMPACT_STRINGS" "Z" (.int cp)) (hcp : ¬ cp = 0) (fm : Value) (hfm : fm.isRef = true) (Hf : Sta Z Z.heap "jdk/internal/util/Preconditions" "SIOOBE_FORMATTER" "Ljava/util/function/BiFunction;" fm) (H0 : Sta Z Z.heap "java/lang/StringUTF16" "$assertionsDisabled" "Z" (.int 1)) (H1 : Sta Z Z.heap "java/lang/StringUTF16" "HI_BYTE_SHIFT" "I" (.int 0)) (H2 : Sta Z Z.heap "java/lang/StringUTF16" "LO_BYTE_SHIFT" "I" (.int 8)) :
    Road.Con l Z consts_1 n0 false bSh00 [] σ #[(.ref q), (.int x)] h0 (fun v h2 s2 => v = some (.ref q) ∧ Keep h0 h2 [q, b] ∧ ∃ d, Road.Sb0 Z h2 q d (cs ++ [x]) N ∧ (d = b ∨ h0.size ≤ d) ∧ s2 d) := by
  refine Road.Con.of bSh00_pn hEW #[.val (.ref q), .val (.int x)] (fun m => Road.ent (Road.laid1 rfl (Road.laid1 rfl Road.laid0)) (k := 0) rfl rfl) ?_
  intro D hD
  refine Road.aloadN 0 bSh00_d0 rfl ?_
  refine Road.iloadN 1 bSh00_d1 rfl ?_
  refine Road.callUp (B' := bAh00) (a := q) 2 (argsL := [(.int x)]) (rest := []) "java/lang/StringBuilder" 0 bSh00_d2 (wI hw 127 rfl) (Road.notFace_sib (wI hw 95 rfl) rfl) (wI hw 128 rfl) (wI hw 77 rfl) (wI hw 55 rfl) (wI hw 130 rfl) (by decide) (by decide) S.1 (cAh00 l Z a0 hw n0 hEW q b cs N x h0 σ S hx hm sb_ sq cp Hc hcp fm hfm Hf H0 H1 H2) (lenOf bAh00_pd rfl) rfl rfl rfl (by decide) (by decide) (ce' := 0) (sl' := 0) rfl rfl (by decide) (by decide) ?_
  rintro _ h_1 σ_2 m_3 ⟨rfl, K_4, d, S2, gd, sd⟩
  refine Road.pop 5 bSh00_d5 ?_
  refine Road.aloadN 6 bSh00_d6 rfl ?_
  exact Road.aret 7 bSh00_d7 (t := (.object "java/lang/StringBuilder")) rfl rfl rfl (by decide) (by decide) (fun σ' m => ⟨rfl, K_4, d, S2, gd, m _ sd⟩)
def bAh01 : Road.Bdy := (⟨"java/lang/AbstractStringBuilder", "append", "(C)Ljava/lang/AbstractStringBuilder;"⟩, jdk_68_method_31_code, 2, (some (.object "java/lang/AbstractStringBuilder")), { frames := 4, cells := 1, slots := 68, locals := 62 })
theorem bAh01_pd : parseMethodDescriptor "(C)Ljava/lang/AbstractStringBuilder;" = some ⟨[.char], (some (.object "java/lang/AbstractStringBuilder"))⟩ := by decide +kernel
theorem bAh01_pn : plainFor bAh01.y = true := plainFor_of_name (show plainName "java/lang/AbstractStringBuilder" = true from by first | (simp [plainName, overriddenIn]; done) | decide +kernel)
theorem cAh01 (l : Launch) (Z : State) (a0 : Array Value) (hw : ∀ d ∈ tables_1, d.before a0 Z = true) (n0 : Nat) (hEW : EW Z a0 consts_1) (q b : Addr) (cs : List Int32) (N : Nat) (x : Int32) (h0 : Heap) (σ : Addr → Prop) (S : Road.Sb0 Z h0 q b cs N) (hx : 0 ≤ x.toInt ∧ x.toInt < 256) (hm : N < cs.length + 1) (hcap : (max (cs.length + 1) (2 * N + 2)) ≤ 34) (sb_ : σ b) (sq : σ q) (cp : Int32) (Hc : Sta Z Z.heap Road.SN "COMPACT_STRINGS" "Z" (.int cp)) (hcp : ¬ cp = 0) (fm : Value) (hfm : fm.isRef = true) (Hf : Sta Z Z.heap "jdk/internal/util/Preconditions" "SIOOBE_FORMATTER" "Ljava/util/function/BiFunction;" fm) (H0 : Sta Z Z.heap "java/lang/StringUTF16" "$assertionsDisabled" "Z" (.int 1)) (H1 : Sta Z Z.heap "java/lang/StringUTF16" "HI_BYTE_SHIFT" "I" (.int 0)) (H2 : Sta Z Z.heap "java/lang/StringUTF16" "LO_BYTE_SHIFT" "I" (.int 8)) :
    Road.Con l Z consts_1 n0 false bAh01 [] σ #[(.ref q), (.int x)] h0 (fun v h2 s2 => v = some (.ref q) ∧ Keep h0 h2 [q, b] ∧ ∃ d, Road.Sb0 Z h2 q d (cs ++ [x]) (max (cs.length + 1) (2 * N + 2)) ∧ (d = b ∨ h0.size ≤ d) ∧ s2 d) := by
  have hN := S.small
  have hle := S.le
  have S0 := S
  obtain ⟨E, Fc, Fv, Fn, ⟨r, Ab, hr⟩, hlt, Fy, EB⟩ := S
  refine Road.Con.of bAh01_pn hEW #[.val (.ref q), .val (.int x)] (fun m => Road.ent (Road.laid1 rfl (Road.laid1 rfl Road.laid0)) (k := 0) rfl rfl) ?_
  intro D hD
  refine Road.aloadN 0 bAh00_d0 rfl ?_
  refine Road.aloadN 1 bAh00_d1 rfl ?_
  refine Road.getfield 2 bAh00_d2 (wI hw 90 rfl) Via.refl Fn ?_
  refine Road.iconst 5 (1 : Int32) bAh00_d5 rfl ?_
  refine Road.iadd 6 bAh00_d6 ?_
  refine Road.nameI ?_
  intro z_1 hz_1
  obtain rfl : z_1 = (Nat.toInt32 (cs.length + 1)) := by rw [hz_1]; exact Road.succ32 _
  refine Road.callP (B' := bEg0) (a := q) 7 (argsL := [(.int (Nat.toInt32 (cs.length + 1)))]) (rest := []) "java/lang/StringBuilder" 0 bAh00_d7 (wI hw 92 rfl) (wI hw 94 rfl) (wI hw 95 rfl) (wI hw 93 rfl) (wI hw 55 rfl) (wI hw 96 rfl) (by decide) E (cEg0 l Z a0 hw n0 hEW q b cs N (cs.length + 1) h0 σ S0 hm hcap sq) (lenOf bEg0_pd rfl) rfl rfl rfl (by decide) (by decide) (ce' := 1) (sl' := 68) rfl rfl (by decide) (by decide) ?_
  rintro _ h_2 σ_3 m_4 ⟨rfl, K_5, b2, S2, g2, s2⟩
  replace sq := m_4 _ sq
  replace sb_ := m_4 _ sb_
  clear E Fc Fv Fn Fy EB Ab
  obtain ⟨E, Fc, Fv, Fn, ⟨r2, Ab, hr2⟩, -, Fy, EB⟩ := S2
  have nqb2 : q ≠ b2 := by obtain ⟨c, Ar, -⟩ := Ab; exact ne_arr E (wI hw 46 rfl) Ar
  refine Road.aloadN 10 bAh00_d10 rfl ?_
  refine Road.callV (B' := bAL0) (a := q) 11 (argsL := []) (rest := []) "java/lang/StringBuilder" 0 bAh00_d11 (wI hw 131 rfl) (wI hw 132 rfl) (fun vm hz => Road.notFace_sib (args := #[]) (mv (s := D.s.setVm vm) hz (wI hw 95 rfl)) rfl) (wI hw 134 rfl) (wI hw 133 rfl) (wI hw 55 rfl) (wI hw 135 rfl) (by decide) E (cAL0 l Z a0 hw n0 hEW q h_2 σ_3 Fc cp Hc hcp) (lenOf bAL0_pd rfl) rfl rfl rfl (by decide) (by decide) (ce' := 1) (sl' := 68) rfl rfl (by decide) (by decide) ?_
  rintro _ h_8 σ_9 m_10 ⟨rfl, rfl⟩
  refine Road.Go.weaken (σ' := σ_3) m_10 (Nat.le_refl _) (Nat.le_refl _) ?_
  refine Road.if_eq 14 45 bAh00_d14 rfl (fun q => absurd q (by decide)) (fun hc14 => ?_)
  refine Road.iloadN 17 bAh00_d17 rfl ?_
  refine Road.callS (B' := bCan) 18 (argsL := [(.int x)]) (rest := []) 0 bAh00_d18 (wI hw 136 rfl) (wI hw 137 rfl) (wI hw 138 rfl) (wI hw 139 rfl) (by decide) (cCan l Z a0 hw n0 hEW x h_2 σ_3 hx) (lenOf bCan_pd rfl) rfl rfl rfl (by decide) (by decide) (ce' := 1) (sl' := 68) rfl rfl (by decide) (by decide) ?_
  rintro _ h_12 σ_13 m_14 ⟨rfl, rfl⟩
  refine Road.Go.weaken (σ' := σ_3) m_14 (Nat.le_refl _) (Nat.le_refl _) ?_
  refine Road.if_eq 21 45 bAh00_d21 rfl (fun q => absurd q (by decide)) (fun hc21 => ?_)
  refine Road.aloadN 24 bAh00_d24 rfl ?_
  refine Road.getfield 25 bAh00_d25 (wI hw 59 rfl) Via.refl Fv ?_
  refine Road.aloadN 28 bAh00_d28 rfl ?_
  refine Road.dup 29 bAh00_d29 ?_
  refine Road.getfield 30 bAh00_d30 (wI hw 90 rfl) Via.refl Fn ?_
  refine Road.dupX1 33 bAh00_d33 ?_
  refine Road.iconst 34 (1 : Int32) bAh00_d34 rfl ?_
  refine Road.iadd 35 bAh00_d35 ?_
  refine Road.nameI ?_
  intro z_16 hz_16
  obtain rfl : z_16 = (Nat.toInt32 (cs ++ [x]).length) := by rw [hz_16]; rw [List.length_append]; exact Road.succ32 _
  refine Road.putfield 36 bAh00_d36 (wI hw 90 rfl) Via.refl Fn E (Or.inl (wI hw 91 rfl)) (wI hw 46 rfl) (ty := .int) (by decide) rfl rfl sq ?_
  intro h_19 W_17 K_18
  replace Fn := Fn.same W_17
  replace Fc := Fc.other W_17 (Or.inr (slot_ne (Or.inl (wI hw 62 rfl)) (Or.inl (wI hw 91 rfl)) (by decide) (t := .byte) (by decide) (t' := .int) (by decide)))
  replace Fv := Fv.other W_17 (Or.inr (slot_ne (Or.inl (wI hw 60 rfl)) (Or.inl (wI hw 91 rfl)) (by decide) (t := (.array .byte)) (by decide) (t' := .int) (by decide)))
  replace Fy := Fy.other W_17 (Or.inr (slot_ne (Or.inl (wI hw 279 rfl)) (Or.inl (wI hw 91 rfl)) (by decide) (t := .boolean) (by decide) (t' := .int) (by decide)))
  replace E := E.keep K_18
  replace Ab := Ab.keep K_18 (ninS (Ne.symm nqb2) nin0)
  replace EB := EB.keep K_18
  refine Road.iloadN 39 bAh00_d39 rfl ?_
  refine Road.i2b 40 bAh00_d40 ?_
  refine Road.bastore 41 cs.length (Int8.toInt32 (Int32.toInt8 x)) bAh00_d41 Ab (Road.n32 (by omega)) (by simp only [List.length_append, List.length_map, Road.utf_len, List.length_replicate, List.length_drop, List.length_cons, List.length_nil]; omega) (Road.nar_byte _) s2 ?_
  intro h_20 K_21 A_22
  replace E := E.keep K_21
  replace Fc := Fc.keep K_21 (ninS nqb2 nin0)
  replace Fv := Fv.keep K_21 (ninS nqb2 nin0)
  replace Fn := Fn.keep K_21 (ninS nqb2 nin0)
  replace Fy := Fy.keep K_21 (ninS nqb2 nin0)
  replace EB := EB.keep K_21
  replace Ab := A_22
  rw [show (Value.int (Int8.toInt32 (Int32.toInt8 x))) = Road.byt x from rfl, Road.put_chr _ _ _ (by omega)] at Ab
  refine Road.goto 42 75 bAh00_d42 rfl ?_
  refine Road.aloadN 75 bAh00_d75 rfl ?_
  exact Road.aret 76 bAh00_d76 (t := (.object "java/lang/AbstractStringBuilder")) rfl rfl rfl (by decide) (by decide) (fun σ' m => ⟨rfl, (Road.keep_sub ((K_5.trans K_18 (by simp)).trans K_21 (by intro x hx; cases List.mem_singleton.mp hx; exact Or.inr g2)) (by simp)), b2, ⟨E, Fc, Fv, Fn, ⟨_, Ab, by simp only [List.length_append, List.length_map, Road.utf_len, List.length_replicate, List.length_drop, List.length_cons, List.length_nil]; omega⟩, fun c hc => (List.mem_append.mp hc).elim (hlt c) (fun hc => by cases List.mem_singleton.mp hc; exact hx), Fy, EB⟩, Or.inr g2, m _ s2⟩)
def bSh01 : Road.Bdy := (⟨"java/lang/StringBuilder", "append", "(C)Ljava/lang/StringBuilder;"⟩, jdk_67_method_14_code, 2, (some (.object "java/lang/StringBuilder")), { frames := 5, cells := 1, slots := 68, locals := 75 })
theorem bSh01_pd : parseMethodDescriptor "(C)Ljava/lang/StringBuilder;" = some ⟨[.char], (some (.object "java/lang/StringBuilder"))⟩ := by decide +kernel
theorem bSh01_pn : plainFor bSh01.y = true := plainFor_of_name (show plainName "java/lang/StringBuilder" = true from by first | (simp [plainName, overriddenIn]; done) | decide +kernel)
theorem cSh01 (l : Launch) (Z : State) (a0 : Array Value) (hw : ∀ d ∈ tables_1, d.before a0 Z = true) (n0 : Nat) (hEW : EW Z a0 consts_1) (q b : Addr) (cs : List Int32) (N : Nat) (x : Int32) (h0 : Heap) (σ : Addr → Prop) (S : Road.Sb0 Z h0 q b cs N) (hx : 0 ≤ x.toInt ∧ x.toInt < 256) (hm : N < cs.length + 1) (hcap : (max (cs.length + 1) (2 * N + 2)) ≤ 34) (sb_ : σ b) (sq : σ q) (cp : Int32) (Hc : Sta Z Z.heap Road.SN "COMPACT_STRINGS" "Z" (.int cp)) (hcp : ¬ cp = 0) (fm : Value) (hfm : fm.isRef = true) (Hf : Sta Z Z.heap "jdk/internal/util/Preconditions" "SIOOBE_FORMATTER" "Ljava/util/function/BiFunction;" fm) (H0 : Sta Z Z.heap "java/lang/StringUTF16" "$assertionsDisabled" "Z" (.int 1)) (H1 : Sta Z Z.heap "java/lang/StringUTF16" "HI_BYTE_SHIFT" "I" (.int 0)) (H2 : Sta Z Z.heap "java/lang/StringUTF16" "LO_BYTE_SHIFT" "I" (.int 8)) :
    Road.Con l Z consts_1 n0 false bSh01 [] σ #[(.ref q), (.int x)] h0 (fun v h2 s2 => v = some (.ref q) ∧ Keep h0 h2 [q, b] ∧ ∃ d, Road.Sb0 Z h2 q d (cs ++ [x]) (max (cs.length + 1) (2 * N + 2)) ∧ (d = b ∨ h0.size ≤ d) ∧ s2 d) := by
  refine Road.Con.of bSh01_pn hEW #[.val (.ref q), .val (.int x)] (fun m => Road.ent (Road.laid1 rfl (Road.laid1 rfl Road.laid0)) (k := 0) rfl rfl) ?_
  intro D hD
  refine Road.aloadN 0 bSh00_d0 rfl ?_
  refine Road.iloadN 1 bSh00_d1 rfl ?_
  refine Road.callUp (B' := bAh01) (a := q) 2 (argsL := [(.int x)]) (rest := []) "java/lang/StringBuilder" 0 bSh00_d2 (wI hw 127 rfl) (Road.notFace_sib (wI hw 95 rfl) rfl) (wI hw 128 rfl) (wI hw 77 rfl) (wI hw 55 rfl) (wI hw 130 rfl) (by decide) (by decide) S.1 (cAh01 l Z a0 hw n0 hEW q b cs N x h0 σ S hx hm hcap sb_ sq cp Hc hcp fm hfm Hf H0 H1 H2) (lenOf bAh01_pd rfl) rfl rfl rfl (by decide) (by decide) (ce' := 1) (sl' := 68) rfl rfl (by decide) (by decide) ?_
  rintro _ h_1 σ_2 m_3 ⟨rfl, K_4, d, S2, gd, sd⟩
  refine Road.pop 5 bSh00_d5 ?_
  refine Road.aloadN 6 bSh00_d6 rfl ?_
  exact Road.aret 7 bSh00_d7 (t := (.object "java/lang/StringBuilder")) rfl rfl rfl (by decide) (by decide) (fun σ' m => ⟨rfl, K_4, d, S2, gd, m _ sd⟩)
def bAh10 : Road.Bdy := (⟨"java/lang/AbstractStringBuilder", "append", "(C)Ljava/lang/AbstractStringBuilder;"⟩, jdk_68_method_31_code, 2, (some (.object "java/lang/AbstractStringBuilder")), { frames := 4, cells := 0, slots := 0, locals := 54 })
theorem bAh10_pd : parseMethodDescriptor "(C)Ljava/lang/AbstractStringBuilder;" = some ⟨[.char], (some (.object "java/lang/AbstractStringBuilder"))⟩ := by decide +kernel
theorem bAh10_pn : plainFor bAh10.y = true := plainFor_of_name (show plainName "java/lang/AbstractStringBuilder" = true from by first | (simp [plainName, overriddenIn]; done) | decide +kernel)
theorem cAh10 (l : Launch) (Z : State) (a0 : Array Value) (hw : ∀ d ∈ tables_1, d.before a0 Z = true) (n0 : Nat) (hEW : EW Z a0 consts_1) (q b : Addr) (cs : List Int32) (N : Nat) (x : Int32) (h0 : Heap) (σ : Addr → Prop) (S : Road.Sb1 Z h0 q b cs N) (hx : 0 ≤ x.toInt ∧ x.toInt < 256) (hm : cs.length + 1 ≤ N) (sb_ : σ b) (sq : σ q) (cp : Int32) (Hc : Sta Z Z.heap Road.SN "COMPACT_STRINGS" "Z" (.int cp)) (hcp : ¬ cp = 0) (fm : Value) (hfm : fm.isRef = true) (Hf : Sta Z Z.heap "jdk/internal/util/Preconditions" "SIOOBE_FORMATTER" "Ljava/util/function/BiFunction;" fm) (H0 : Sta Z Z.heap "java/lang/StringUTF16" "$assertionsDisabled" "Z" (.int 1)) (H1 : Sta Z Z.heap "java/lang/StringUTF16" "HI_BYTE_SHIFT" "I" (.int 0)) (H2 : Sta Z Z.heap "java/lang/StringUTF16" "LO_BYTE_SHIFT" "I" (.int 8)) :
    Road.Con l Z consts_1 n0 false bAh10 [] σ #[(.ref q), (.int x)] h0 (fun v h2 s2 => v = some (.ref q) ∧ Keep h0 h2 [q, b] ∧ ∃ d, Road.Sb1 Z h2 q d (cs ++ [x]) N ∧ (d = b ∨ h0.size ≤ d) ∧ s2 d) := by
  have hN := S.small
  have hle := S.le
  have S0 := S
  obtain ⟨E, Fc, Fv, Fn, ⟨r, Ab, hr⟩, hlt, Fy, EB⟩ := S
  refine Road.Con.of bAh10_pn hEW #[.val (.ref q), .val (.int x)] (fun m => Road.ent (Road.laid1 rfl (Road.laid1 rfl Road.laid0)) (k := 0) rfl rfl) ?_
  intro D hD
  refine Road.aloadN 0 bAh00_d0 rfl ?_
  refine Road.aloadN 1 bAh00_d1 rfl ?_
  refine Road.getfield 2 bAh00_d2 (wI hw 90 rfl) Via.refl Fn ?_
  refine Road.iconst 5 (1 : Int32) bAh00_d5 rfl ?_
  refine Road.iadd 6 bAh00_d6 ?_
  refine Road.nameI ?_
  intro z_1 hz_1
  obtain rfl : z_1 = (Nat.toInt32 (cs.length + 1)) := by rw [hz_1]; exact Road.succ32 _
  refine Road.callP (B' := bEa1) (a := q) 7 (argsL := [(.int (Nat.toInt32 (cs.length + 1)))]) (rest := []) "java/lang/StringBuilder" 0 bAh00_d7 (wI hw 92 rfl) (wI hw 94 rfl) (wI hw 95 rfl) (wI hw 93 rfl) (wI hw 55 rfl) (wI hw 96 rfl) (by decide) E (cEa1 l Z a0 hw n0 hEW q b cs N (cs.length + 1) h0 σ S0 hm) (lenOf bEa1_pd rfl) rfl rfl rfl (by decide) (by decide) (ce' := 0) (sl' := 0) rfl rfl (by decide) (by decide) ?_
  rintro _ h_2 σ_3 m_4 ⟨rfl, rfl⟩
  refine Road.Go.weaken (σ' := σ) m_4 (Nat.le_refl _) (Nat.le_refl _) ?_
  have nqb : q ≠ b := by obtain ⟨c, Ar, -⟩ := Ab; exact ne_arr E (wI hw 46 rfl) Ar
  refine Road.aloadN 10 bAh00_d10 rfl ?_
  refine Road.callV (B' := bAL1) (a := q) 11 (argsL := []) (rest := []) "java/lang/StringBuilder" 0 bAh00_d11 (wI hw 131 rfl) (wI hw 132 rfl) (fun vm hz => Road.notFace_sib (args := #[]) (mv (s := D.s.setVm vm) hz (wI hw 95 rfl)) rfl) (wI hw 134 rfl) (wI hw 133 rfl) (wI hw 55 rfl) (wI hw 135 rfl) (by decide) E (cAL1 l Z a0 hw n0 hEW q h0 σ Fc cp Hc hcp) (lenOf bAL1_pd rfl) rfl rfl rfl (by decide) (by decide) (ce' := 0) (sl' := 0) rfl rfl (by decide) (by decide) ?_
  rintro _ h_6 σ_7 m_8 ⟨rfl, rfl⟩
  refine Road.Go.weaken (σ' := σ) m_8 (Nat.le_refl _) (Nat.le_refl _) ?_
  refine Road.if_eq 14 45 bAh00_d14 rfl (fun hc14 => ?_) (fun q => absurd q (by decide))
  refine Road.aloadN 45 bAh00_d45 rfl ?_
  refine Road.callV (B' := bAL1) (a := q) 46 (argsL := []) (rest := []) "java/lang/StringBuilder" 0 bAh00_d46 (wI hw 131 rfl) (wI hw 132 rfl) (fun vm hz => Road.notFace_sib (args := #[]) (mv (s := D.s.setVm vm) hz (wI hw 95 rfl)) rfl) (wI hw 134 rfl) (wI hw 133 rfl) (wI hw 55 rfl) (wI hw 135 rfl) (by decide) E (cAL1 l Z a0 hw n0 hEW q h0 σ Fc cp Hc hcp) (lenOf bAL1_pd rfl) rfl rfl rfl (by decide) (by decide) (ce' := 0) (sl' := 0) rfl rfl (by decide) (by decide) ?_
  rintro _ h_10 σ_11 m_12 ⟨rfl, rfl⟩
  refine Road.Go.weaken (σ' := σ) m_12 (Nat.le_refl _) (Nat.le_refl _) ?_
  refine Road.if_eq 49 56 bAh00_d49 rfl (fun hc49 => ?_) (fun q => absurd q (by decide))
  refine Road.aloadN 56 bAh00_d56 rfl ?_
  refine Road.getfield 57 bAh00_d57 (wI hw 59 rfl) Via.refl Fv ?_
  refine Road.aloadN 60 bAh00_d60 rfl ?_
  refine Road.dup 61 bAh00_d61 ?_
  refine Road.getfield 62 bAh00_d62 (wI hw 90 rfl) Via.refl Fn ?_
  refine Road.dupX1 65 bAh00_d65 ?_
  refine Road.iconst 66 (1 : Int32) bAh00_d66 rfl ?_
  refine Road.iadd 67 bAh00_d67 ?_
  refine Road.nameI ?_
  intro z_14 hz_14
  obtain rfl : z_14 = (Nat.toInt32 (cs ++ [x]).length) := by rw [hz_14]; rw [List.length_append]; exact Road.succ32 _
  refine Road.putfield 68 bAh00_d68 (wI hw 90 rfl) Via.refl Fn E (Or.inl (wI hw 91 rfl)) (wI hw 46 rfl) (ty := .int) (by decide) rfl rfl sq ?_
  intro h_17 W_15 K_16
  replace Fn := Fn.same W_15
  replace Fc := Fc.other W_15 (Or.inr (slot_ne (Or.inl (wI hw 62 rfl)) (Or.inl (wI hw 91 rfl)) (by decide) (t := .byte) (by decide) (t' := .int) (by decide)))
  replace Fv := Fv.other W_15 (Or.inr (slot_ne (Or.inl (wI hw 60 rfl)) (Or.inl (wI hw 91 rfl)) (by decide) (t := (.array .byte)) (by decide) (t' := .int) (by decide)))
  replace Fy := Fy.other W_15 (Or.inr (slot_ne (Or.inl (wI hw 279 rfl)) (Or.inl (wI hw 91 rfl)) (by decide) (t := .boolean) (by decide) (t' := .int) (by decide)))
  replace E := E.keep K_16
  replace Ab := Ab.keep K_16 (ninS (Ne.symm nqb) nin0)
  replace EB := EB.keep K_16
  refine Road.iloadN 71 bAh00_d71 rfl ?_
  refine Road.callS (B' := bPsb) 72 (argsL := [(.ref b), (.int (Nat.toInt32 cs.length)), (.int x)]) (rest := []) 0 bAh00_d72 (wI hw 270 rfl) (wI hw 271 rfl) (wI hw 22 rfl) (wI hw 272 rfl) (by decide) (cPsb l Z a0 hw n0 hEW b cs r N x h_17 σ Ab hr (by omega) sb_ fm hfm Hf H0 H1 H2) (lenOf bPsb_pd rfl) rfl rfl rfl (by decide) (by decide) (ce' := 0) (sl' := 0) rfl rfl (by decide) (by decide) ?_
  rintro _ h_18 σ_19 m_20 ⟨rfl, K_21, Ab⟩
  replace E := E.keep K_21
  replace Fc := Fc.keep K_21 (ninS nqb nin0)
  replace Fv := Fv.keep K_21 (ninS nqb nin0)
  replace Fn := Fn.keep K_21 (ninS nqb nin0)
  replace Fy := Fy.keep K_21 (ninS nqb nin0)
  replace EB := EB.keep K_21
  replace sq := m_20 _ sq
  replace sb_ := m_20 _ sb_
  refine Road.aloadN 75 bAh00_d75 rfl ?_
  exact Road.aret 76 bAh00_d76 (t := (.object "java/lang/AbstractStringBuilder")) rfl rfl rfl (by decide) (by decide) (fun σ' m => ⟨rfl, ((Road.keep_sub (ws' := [q, b]) K_16 (by simp)).trans K_21 (by simp)), b, ⟨E, Fc, Fv, Fn, ⟨_, Ab, by simp only [List.length_append, List.length_map, Road.utf_len, List.length_replicate, List.length_drop, List.length_cons, List.length_nil]; omega⟩, fun c hc => (List.mem_append.mp hc).elim (hlt c) (fun hc => by cases List.mem_singleton.mp hc; exact ⟨hx.1, by have := hx.2; omega⟩), Fy, EB⟩, Or.inl rfl, m _ sb_⟩)
def bSh10 : Road.Bdy := (⟨"java/lang/StringBuilder", "append", "(C)Ljava/lang/StringBuilder;"⟩, jdk_67_method_14_code, 2, (some (.object "java/lang/StringBuilder")), { frames := 5, cells := 0, slots := 0, locals := 67 })
theorem bSh10_pd : parseMethodDescriptor "(C)Ljava/lang/StringBuilder;" = some ⟨[.char], (some (.object "java/lang/StringBuilder"))⟩ := by decide +kernel
theorem bSh10_pn : plainFor bSh10.y = true := plainFor_of_name (show plainName "java/lang/StringBuilder" = true from by first | (simp [plainName, overriddenIn]; done) | decide +kernel)
theorem cSh10 (l : Launch) (Z : State) (a0 : Array Value) (hw : ∀ d ∈ tables_1, d.before a0 Z = true) (n0 : Nat) (hEW : EW Z a0 consts_1) (q b : Addr) (cs : List Int32) (N : Nat) (x : Int32) (h0 : Heap) (σ : Addr → Prop) (S : Road.Sb1 Z h0 q b cs N) (hx : 0 ≤ x.toInt ∧ x.toInt < 256) (hm : cs.length + 1 ≤ N) (sb_ : σ b) (sq : σ q) (cp : Int32) (Hc : Sta Z Z.heap Road.SN "COMPACT_STRINGS" "Z" (.int cp)) (hcp : ¬ cp = 0) (fm : Value) (hfm : fm.isRef = true) (Hf : Sta Z Z.heap "jdk/internal/util/Preconditions" "SIOOBE_FORMATTER" "Ljava/util/function/BiFunction;" fm) (H0 : Sta Z Z.heap "java/lang/StringUTF16" "$assertionsDisabled" "Z" (.int 1)) (H1 : Sta Z Z.heap "java/lang/StringUTF16" "HI_BYTE_SHIFT" "I" (.int 0)) (H2 : Sta Z Z.heap "java/lang/StringUTF16" "LO_BYTE_SHIFT" "I" (.int 8)) :
    Road.Con l Z consts_1 n0 false bSh10 [] σ #[(.ref q), (.int x)] h0 (fun v h2 s2 => v = some (.ref q) ∧ Keep h0 h2 [q, b] ∧ ∃ d, Road.Sb1 Z h2 q d (cs ++ [x]) N ∧ (d = b ∨ h0.size ≤ d) ∧ s2 d) := by
  refine Road.Con.of bSh10_pn hEW #[.val (.ref q), .val (.int x)] (fun m => Road.ent (Road.laid1 rfl (Road.laid1 rfl Road.laid0)) (k := 0) rfl rfl) ?_
  intro D hD
  refine Road.aloadN 0 bSh00_d0 rfl ?_
  refine Road.iloadN 1 bSh00_d1 rfl ?_
  refine Road.callUp (B' := bAh10) (a := q) 2 (argsL := [(.int x)]) (rest := []) "java/lang/StringBuilder" 0 bSh00_d2 (wI hw 127 rfl) (Road.notFace_sib (wI hw 95 rfl) rfl) (wI hw 128 rfl) (wI hw 77 rfl) (wI hw 55 rfl) (wI hw 130 rfl) (by decide) (by decide) S.1 (cAh10 l Z a0 hw n0 hEW q b cs N x h0 σ S hx hm sb_ sq cp Hc hcp fm hfm Hf H0 H1 H2) (lenOf bAh10_pd rfl) rfl rfl rfl (by decide) (by decide) (ce' := 0) (sl' := 0) rfl rfl (by decide) (by decide) ?_
  rintro _ h_1 σ_2 m_3 ⟨rfl, K_4, d, S2, gd, sd⟩
  refine Road.pop 5 bSh00_d5 ?_
  refine Road.aloadN 6 bSh00_d6 rfl ?_
  exact Road.aret 7 bSh00_d7 (t := (.object "java/lang/StringBuilder")) rfl rfl rfl (by decide) (by decide) (fun σ' m => ⟨rfl, K_4, d, S2, gd, m _ sd⟩)
def bAh11 : Road.Bdy := (⟨"java/lang/AbstractStringBuilder", "append", "(C)Ljava/lang/AbstractStringBuilder;"⟩, jdk_68_method_31_code, 2, (some (.object "java/lang/AbstractStringBuilder")), { frames := 4, cells := 1, slots := 68, locals := 62 })
theorem bAh11_pd : parseMethodDescriptor "(C)Ljava/lang/AbstractStringBuilder;" = some ⟨[.char], (some (.object "java/lang/AbstractStringBuilder"))⟩ := by decide +kernel
theorem bAh11_pn : plainFor bAh11.y = true := plainFor_of_name (show plainName "java/lang/AbstractStringBuilder" = true from by first | (simp [plainName, overriddenIn]; done) | decide +kernel)
theorem cAh11 (l : Launch) (Z : State) (a0 : Array Value) (hw : ∀ d ∈ tables_1, d.before a0 Z = true) (n0 : Nat) (hEW : EW Z a0 consts_1) (q b : Addr) (cs : List Int32) (N : Nat) (x : Int32) (h0 : Heap) (σ : Addr → Prop) (S : Road.Sb1 Z h0 q b cs N) (hx : 0 ≤ x.toInt ∧ x.toInt < 256) (hm : N < cs.length + 1) (hcap : (max (cs.length + 1) (2 * N + 2)) ≤ 34) (sb_ : σ b) (sq : σ q) (cp : Int32) (Hc : Sta Z Z.heap Road.SN "COMPACT_STRINGS" "Z" (.int cp)) (hcp : ¬ cp = 0) (fm : Value) (hfm : fm.isRef = true) (Hf : Sta Z Z.heap "jdk/internal/util/Preconditions" "SIOOBE_FORMATTER" "Ljava/util/function/BiFunction;" fm) (H0 : Sta Z Z.heap "java/lang/StringUTF16" "$assertionsDisabled" "Z" (.int 1)) (H1 : Sta Z Z.heap "java/lang/StringUTF16" "HI_BYTE_SHIFT" "I" (.int 0)) (H2 : Sta Z Z.heap "java/lang/StringUTF16" "LO_BYTE_SHIFT" "I" (.int 8)) :
    Road.Con l Z consts_1 n0 false bAh11 [] σ #[(.ref q), (.int x)] h0 (fun v h2 s2 => v = some (.ref q) ∧ Keep h0 h2 [q, b] ∧ ∃ d, Road.Sb1 Z h2 q d (cs ++ [x]) (max (cs.length + 1) (2 * N + 2)) ∧ (d = b ∨ h0.size ≤ d) ∧ s2 d) := by
  have hN := S.small
  have hle := S.le
  have S0 := S
  obtain ⟨E, Fc, Fv, Fn, ⟨r, Ab, hr⟩, hlt, Fy, EB⟩ := S
  refine Road.Con.of bAh11_pn hEW #[.val (.ref q), .val (.int x)] (fun m => Road.ent (Road.laid1 rfl (Road.laid1 rfl Road.laid0)) (k := 0) rfl rfl) ?_
  intro D hD
  refine Road.aloadN 0 bAh00_d0 rfl ?_
  refine Road.aloadN 1 bAh00_d1 rfl ?_
  refine Road.getfield 2 bAh00_d2 (wI hw 90 rfl) Via.refl Fn ?_
  refine Road.iconst 5 (1 : Int32) bAh00_d5 rfl ?_
  refine Road.iadd 6 bAh00_d6 ?_
  refine Road.nameI ?_
  intro z_1 hz_1
  obtain rfl : z_1 = (Nat.toInt32 (cs.length + 1)) := by rw [hz_1]; exact Road.succ32 _
  refine Road.callP (B' := bEg1) (a := q) 7 (argsL := [(.int (Nat.toInt32 (cs.length + 1)))]) (rest := []) "java/lang/StringBuilder" 0 bAh00_d7 (wI hw 92 rfl) (wI hw 94 rfl) (wI hw 95 rfl) (wI hw 93 rfl) (wI hw 55 rfl) (wI hw 96 rfl) (by decide) E (cEg1 l Z a0 hw n0 hEW q b cs N (cs.length + 1) h0 σ S0 hm hcap sq) (lenOf bEg1_pd rfl) rfl rfl rfl (by decide) (by decide) (ce' := 1) (sl' := 68) rfl rfl (by decide) (by decide) ?_
  rintro _ h_2 σ_3 m_4 ⟨rfl, K_5, b2, S2, g2, s2⟩
  replace sq := m_4 _ sq
  replace sb_ := m_4 _ sb_
  clear E Fc Fv Fn Fy EB Ab
  obtain ⟨E, Fc, Fv, Fn, ⟨r2, Ab, hr2⟩, -, Fy, EB⟩ := S2
  have nqb2 : q ≠ b2 := by obtain ⟨c, Ar, -⟩ := Ab; exact ne_arr E (wI hw 46 rfl) Ar
  refine Road.aloadN 10 bAh00_d10 rfl ?_
  refine Road.callV (B' := bAL1) (a := q) 11 (argsL := []) (rest := []) "java/lang/StringBuilder" 0 bAh00_d11 (wI hw 131 rfl) (wI hw 132 rfl) (fun vm hz => Road.notFace_sib (args := #[]) (mv (s := D.s.setVm vm) hz (wI hw 95 rfl)) rfl) (wI hw 134 rfl) (wI hw 133 rfl) (wI hw 55 rfl) (wI hw 135 rfl) (by decide) E (cAL1 l Z a0 hw n0 hEW q h_2 σ_3 Fc cp Hc hcp) (lenOf bAL1_pd rfl) rfl rfl rfl (by decide) (by decide) (ce' := 1) (sl' := 68) rfl rfl (by decide) (by decide) ?_
  rintro _ h_8 σ_9 m_10 ⟨rfl, rfl⟩
  refine Road.Go.weaken (σ' := σ_3) m_10 (Nat.le_refl _) (Nat.le_refl _) ?_
  refine Road.if_eq 14 45 bAh00_d14 rfl (fun hc14 => ?_) (fun q => absurd q (by decide))
  refine Road.aloadN 45 bAh00_d45 rfl ?_
  refine Road.callV (B' := bAL1) (a := q) 46 (argsL := []) (rest := []) "java/lang/StringBuilder" 0 bAh00_d46 (wI hw 131 rfl) (wI hw 132 rfl) (fun vm hz => Road.notFace_sib (args := #[]) (mv (s := D.s.setVm vm) hz (wI hw 95 rfl)) rfl) (wI hw 134 rfl) (wI hw 133 rfl) (wI hw 55 rfl) (wI hw 135 rfl) (by decide) E (cAL1 l Z a0 hw n0 hEW q h_2 σ_3 Fc cp Hc hcp) (lenOf bAL1_pd rfl) rfl rfl rfl (by decide) (by decide) (ce' := 1) (sl' := 68) rfl rfl (by decide) (by decide) ?_
  rintro _ h_12 σ_13 m_14 ⟨rfl, rfl⟩
  refine Road.Go.weaken (σ' := σ_3) m_14 (Nat.le_refl _) (Nat.le_refl _) ?_
  refine Road.if_eq 49 56 bAh00_d49 rfl (fun hc49 => ?_) (fun q => absurd q (by decide))
  refine Road.aloadN 56 bAh00_d56 rfl ?_
  refine Road.getfield 57 bAh00_d57 (wI hw 59 rfl) Via.refl Fv ?_
  refine Road.aloadN 60 bAh00_d60 rfl ?_
  refine Road.dup 61 bAh00_d61 ?_
  refine Road.getfield 62 bAh00_d62 (wI hw 90 rfl) Via.refl Fn ?_
  refine Road.dupX1 65 bAh00_d65 ?_
  refine Road.iconst 66 (1 : Int32) bAh00_d66 rfl ?_
  refine Road.iadd 67 bAh00_d67 ?_
  refine Road.nameI ?_
  intro z_16 hz_16
  obtain rfl : z_16 = (Nat.toInt32 (cs ++ [x]).length) := by rw [hz_16]; rw [List.length_append]; exact Road.succ32 _
  refine Road.putfield 68 bAh00_d68 (wI hw 90 rfl) Via.refl Fn E (Or.inl (wI hw 91 rfl)) (wI hw 46 rfl) (ty := .int) (by decide) rfl rfl sq ?_
  intro h_19 W_17 K_18
  replace Fn := Fn.same W_17
  replace Fc := Fc.other W_17 (Or.inr (slot_ne (Or.inl (wI hw 62 rfl)) (Or.inl (wI hw 91 rfl)) (by decide) (t := .byte) (by decide) (t' := .int) (by decide)))
  replace Fv := Fv.other W_17 (Or.inr (slot_ne (Or.inl (wI hw 60 rfl)) (Or.inl (wI hw 91 rfl)) (by decide) (t := (.array .byte)) (by decide) (t' := .int) (by decide)))
  replace Fy := Fy.other W_17 (Or.inr (slot_ne (Or.inl (wI hw 279 rfl)) (Or.inl (wI hw 91 rfl)) (by decide) (t := .boolean) (by decide) (t' := .int) (by decide)))
  replace E := E.keep K_18
  replace Ab := Ab.keep K_18 (ninS (Ne.symm nqb2) nin0)
  replace EB := EB.keep K_18
  refine Road.iloadN 71 bAh00_d71 rfl ?_
  refine Road.callS (B' := bPsb) 72 (argsL := [(.ref b2), (.int (Nat.toInt32 cs.length)), (.int x)]) (rest := []) 0 bAh00_d72 (wI hw 270 rfl) (wI hw 271 rfl) (wI hw 22 rfl) (wI hw 272 rfl) (by decide) (cPsb l Z a0 hw n0 hEW b2 cs r2 (max (cs.length + 1) (2 * N + 2)) x h_19 σ_3 Ab hr2 (by omega) s2 fm hfm Hf H0 H1 H2) (lenOf bPsb_pd rfl) rfl rfl rfl (by decide) (by decide) (ce' := 1) (sl' := 68) rfl rfl (by decide) (by decide) ?_
  rintro _ h_20 σ_21 m_22 ⟨rfl, K_23, Ab⟩
  replace E := E.keep K_23
  replace Fc := Fc.keep K_23 (ninS nqb2 nin0)
  replace Fv := Fv.keep K_23 (ninS nqb2 nin0)
  replace Fn := Fn.keep K_23 (ninS nqb2 nin0)
  replace Fy := Fy.keep K_23 (ninS nqb2 nin0)
  replace EB := EB.keep K_23
  replace sq := m_22 _ sq
  replace sb_ := m_22 _ sb_
  replace s2 := m_22 _ s2
  refine Road.aloadN 75 bAh00_d75 rfl ?_
  exact Road.aret 76 bAh00_d76 (t := (.object "java/lang/AbstractStringBuilder")) rfl rfl rfl (by decide) (by decide) (fun σ' m => ⟨rfl, (Road.keep_sub ((K_5.trans K_18 (by simp)).trans K_23 (by intro x hx; cases List.mem_singleton.mp hx; exact Or.inr g2)) (by simp)), b2, ⟨E, Fc, Fv, Fn, ⟨_, Ab, by simp only [List.length_append, List.length_map, Road.utf_len, List.length_replicate, List.length_drop, List.length_cons, List.length_nil]; omega⟩, fun c hc => (List.mem_append.mp hc).elim (hlt c) (fun hc => by cases List.mem_singleton.mp hc; exact ⟨hx.1, by have := hx.2; omega⟩), Fy, EB⟩, Or.inr g2, m _ s2⟩)
def bSh11 : Road.Bdy := (⟨"java/lang/StringBuilder", "append", "(C)Ljava/lang/StringBuilder;"⟩, jdk_67_method_14_code, 2, (some (.object "java/lang/StringBuilder")), { frames := 5, cells := 1, slots := 68, locals := 75 })
theorem bSh11_pd : parseMethodDescriptor "(C)Ljava/lang/StringBuilder;" = some ⟨[.char], (some (.object "java/lang/StringBuilder"))⟩ := by decide +kernel
theorem bSh11_pn : plainFor bSh11.y = true := plainFor_of_name (show plainName "java/lang/StringBuilder" = true from by first | (simp [plainName, overriddenIn]; done) | decide +kernel)
theorem cSh11 (l : Launch) (Z : State) (a0 : Array Value) (hw : ∀ d ∈ tables_1, d.before a0 Z = true) (n0 : Nat) (hEW : EW Z a0 consts_1) (q b : Addr) (cs : List Int32) (N : Nat) (x : Int32) (h0 : Heap) (σ : Addr → Prop) (S : Road.Sb1 Z h0 q b cs N) (hx : 0 ≤ x.toInt ∧ x.toInt < 256) (hm : N < cs.length + 1) (hcap : (max (cs.length + 1) (2 * N + 2)) ≤ 34) (sb_ : σ b) (sq : σ q) (cp : Int32) (Hc : Sta Z Z.heap Road.SN "COMPACT_STRINGS" "Z" (.int cp)) (hcp : ¬ cp = 0) (fm : Value) (hfm : fm.isRef = true) (Hf : Sta Z Z.heap "jdk/internal/util/Preconditions" "SIOOBE_FORMATTER" "Ljava/util/function/BiFunction;" fm) (H0 : Sta Z Z.heap "java/lang/StringUTF16" "$assertionsDisabled" "Z" (.int 1)) (H1 : Sta Z Z.heap "java/lang/StringUTF16" "HI_BYTE_SHIFT" "I" (.int 0)) (H2 : Sta Z Z.heap "java/lang/StringUTF16" "LO_BYTE_SHIFT" "I" (.int 8)) :
    Road.Con l Z consts_1 n0 false bSh11 [] σ #[(.ref q), (.int x)] h0 (fun v h2 s2 => v = some (.ref q) ∧ Keep h0 h2 [q, b] ∧ ∃ d, Road.Sb1 Z h2 q d (cs ++ [x]) (max (cs.length + 1) (2 * N + 2)) ∧ (d = b ∨ h0.size ≤ d) ∧ s2 d) := by
  refine Road.Con.of bSh11_pn hEW #[.val (.ref q), .val (.int x)] (fun m => Road.ent (Road.laid1 rfl (Road.laid1 rfl Road.laid0)) (k := 0) rfl rfl) ?_
  intro D hD
  refine Road.aloadN 0 bSh00_d0 rfl ?_
  refine Road.iloadN 1 bSh00_d1 rfl ?_
  refine Road.callUp (B' := bAh11) (a := q) 2 (argsL := [(.int x)]) (rest := []) "java/lang/StringBuilder" 0 bSh00_d2 (wI hw 127 rfl) (Road.notFace_sib (wI hw 95 rfl) rfl) (wI hw 128 rfl) (wI hw 77 rfl) (wI hw 55 rfl) (wI hw 130 rfl) (by decide) (by decide) S.1 (cAh11 l Z a0 hw n0 hEW q b cs N x h0 σ S hx hm hcap sb_ sq cp Hc hcp fm hfm Hf H0 H1 H2) (lenOf bAh11_pd rfl) rfl rfl rfl (by decide) (by decide) (ce' := 1) (sl' := 68) rfl rfl (by decide) (by decide) ?_
  rintro _ h_1 σ_2 m_3 ⟨rfl, K_4, d, S2, gd, sd⟩
  refine Road.pop 5 bSh00_d5 ?_
  refine Road.aloadN 6 bSh00_d6 rfl ?_
  exact Road.aret 7 bSh00_d7 (t := (.object "java/lang/StringBuilder")) rfl rfl rfl (by decide) (by decide) (fun σ' m => ⟨rfl, K_4, d, S2, gd, m _ sd⟩)
def bUca : Road.Bdy := (⟨"java/lang/StringUTF16", "charAt", "([BI)C"⟩, jdk_52_method_83_code, 2, (some .char), { frames := 3, cells := 0, slots := 0, locals := 40 })
theorem bUca_d0 : decode bUca.bs 0 = .ok (.iload_n 1, 1) := by decide +kernel
theorem bUca_d1 : decode bUca.bs 1 = .ok (.aload_n 0, 1) := by decide +kernel
theorem bUca_d2 : decode bUca.bs 2 = .ok (.invokestatic 67, 3) := by decide +kernel
theorem bUca_d5 : decode bUca.bs 5 = .ok (.aload_n 0, 1) := by decide +kernel
theorem bUca_d6 : decode bUca.bs 6 = .ok (.iload_n 1, 1) := by decide +kernel
theorem bUca_d7 : decode bUca.bs 7 = .ok (.invokestatic 71, 3) := by decide +kernel
theorem bUca_d10 : decode bUca.bs 10 = .ok (.ireturn, 1) := by decide +kernel
theorem bUca_pd : parseMethodDescriptor "([BI)C" = some ⟨[(.array .byte), .int], (some .char)⟩ := by decide +kernel
theorem bUca_pn : plainFor bUca.y = true := plainFor_of_name (show plainName "java/lang/StringUTF16" = true from by first | (simp [plainName, overriddenIn]; done) | decide +kernel)
theorem cUca (l : Launch) (Z : State) (a0 : Array Value) (hw : ∀ d ∈ tables_1, d.before a0 Z = true) (n0 : Nat) (hEW : EW Z a0 consts_1) (b : Addr) (ds : List Int32) (i : Nat) (h0 : Heap) (σ : Addr → Prop) (A : Road.Ary Z h0 b .byte (Road.utf ds)) (h16 : ∀ c ∈ ds, 0 ≤ c.toInt ∧ c.toInt < 65536) (hi : i < ds.length) (fm : Value) (hfm : fm.isRef = true) (Hf : Sta Z Z.heap "jdk/internal/util/Preconditions" "SIOOBE_FORMATTER" "Ljava/util/function/BiFunction;" fm) (H0 : Sta Z Z.heap "java/lang/StringUTF16" "$assertionsDisabled" "Z" (.int 1)) (H1 : Sta Z Z.heap "java/lang/StringUTF16" "HI_BYTE_SHIFT" "I" (.int 0)) (H2 : Sta Z Z.heap "java/lang/StringUTF16" "LO_BYTE_SHIFT" "I" (.int 8)) :
    Road.Con l Z consts_1 n0 false bUca [] σ #[(.ref b), (.int (Nat.toInt32 i))] h0 (fun v h2 _ => v = some (.int ds[i]) ∧ h0 = h2) := by
  refine Road.Con.of bUca_pn hEW #[.val (.ref b), .val (.int (Nat.toInt32 i))] (fun m => Road.ent (Road.laid1 rfl (Road.laid1 rfl Road.laid0)) (k := 0) rfl rfl) ?_
  intro D hD
  refine Road.iloadN 0 bUca_d0 rfl ?_
  refine Road.aloadN 1 bUca_d1 rfl ?_
  refine Road.callS (B' := bUci) 2 (argsL := [(.int (Nat.toInt32 i)), (.ref b)]) (rest := []) 0 bUca_d2 (wI hw 273 rfl) (wI hw 274 rfl) (wI hw 22 rfl) (wI hw 275 rfl) (by decide) (cUci l Z a0 hw n0 hEW b _ i ds.length h0 σ A (Road.utf_len _) hi fm hfm Hf) (lenOf bUci_pd rfl) rfl rfl rfl (by decide) (by decide) (ce' := 0) (sl' := 0) rfl rfl (by decide) (by decide) ?_
  rintro _ h_1 σ_2 m_3 ⟨rfl, rfl⟩
  refine Road.Go.weaken (σ' := σ) m_3 (Nat.le_refl _) (Nat.le_refl _) ?_
  refine Road.aloadN 5 bUca_d5 rfl ?_
  refine Road.iloadN 6 bUca_d6 rfl ?_
  refine Road.callS (B' := bGch16) 7 (argsL := [(.ref b), (.int (Nat.toInt32 i))]) (rest := []) 0 bUca_d7 (wI hw 243 rfl) (wI hw 244 rfl) (wI hw 22 rfl) (wI hw 245 rfl) (by decide) (cGch16 l Z a0 hw n0 hEW b ds i h0 σ A hi h16 H0 H1 H2) (lenOf bGch16_pd rfl) rfl rfl rfl (by decide) (by decide) (ce' := 0) (sl' := 0) rfl rfl (by decide) (by decide) ?_
  rintro _ h_5 σ_6 m_7 ⟨rfl, rfl⟩
  refine Road.Go.weaken (σ' := σ) m_7 (Nat.le_refl _) (Nat.le_refl _) ?_
  exact Road.iret 10 ds[i] bUca_d10 (t := .char) rfl (by simp) (Road.nar16 (h16 _ (List.getElem_mem hi))) (by decide) (by decide) (fun σ' m => ⟨rfl, rfl⟩)
def bIl1 : Road.Bdy := (⟨"java/lang/String", "isLatin1", "()Z"⟩, jdk_42_method_154_code, 1, (some .boolean), { frames := 0, cells := 0, slots := 0, locals := 0 })
theorem bIl1_d0 : decode bIl1.bs 0 = .ok (.getstatic 38, 3) := by decide +kernel
theorem bIl1_d3 : decode bIl1.bs 3 = .ok (.ifCond .eq 14, 3) := by decide +kernel
theorem bIl1_d6 : decode bIl1.bs 6 = .ok (.aload_n 0, 1) := by decide +kernel
theorem bIl1_d7 : decode bIl1.bs 7 = .ok (.getfield 15, 3) := by decide +kernel
theorem bIl1_d10 : decode bIl1.bs 10 = .ok (.ifCond .ne 7, 3) := by decide +kernel
theorem bIl1_d13 : decode bIl1.bs 13 = .ok (.iconst 1, 1) := by decide +kernel
theorem bIl1_d14 : decode bIl1.bs 14 = .ok (.goto 4, 3) := by decide +kernel
theorem bIl1_d17 : decode bIl1.bs 17 = .ok (.iconst 0, 1) := by decide +kernel
theorem bIl1_d18 : decode bIl1.bs 18 = .ok (.ireturn, 1) := by decide +kernel
theorem bIl1_pd : parseMethodDescriptor "()Z" = some ⟨[], (some .boolean)⟩ := by decide +kernel
theorem bIl1_pn : plainFor bIl1.y = true := plainFor_of_name (show plainName "java/lang/String" = true from by first | (simp [plainName, overriddenIn]; done) | decide +kernel)
theorem cIl1 (l : Launch) (Z : State) (a0 : Array Value) (hw : ∀ d ∈ tables_1, d.before a0 Z = true) (n0 : Nat) (hEW : EW Z a0 consts_1) (a : Addr) (h0 : Heap) (σ : Addr → Prop) (Fc : Fld Z h0 a Road.SN "coder" "B" (.int 1)) (cp : Int32) (Hc : Sta Z Z.heap Road.SN "COMPACT_STRINGS" "Z" (.int cp)) (hcp : ¬ cp = 0) :
    Road.Con l Z consts_1 n0 false bIl1 [] σ #[(.ref a)] h0 (fun v h2 _ => v = some (.int 0) ∧ h0 = h2) := by
  refine Road.Con.of bIl1_pn hEW #[.val (.ref a)] (fun m => Road.ent (Road.laid1 rfl Road.laid0) (k := 0) rfl rfl) ?_
  intro D hD
  refine Road.getstatic 0 bIl1_d0 (wI hw 19 rfl) Via.refl Hc ?_
  refine Road.if_eq 3 17 bIl1_d3 rfl (fun q => absurd q hcp) (fun hc3 => ?_)
  refine Road.aloadN 6 bIl1_d6 rfl ?_
  refine Road.getfield 7 bIl1_d7 (wI hw 31 rfl) Via.refl Fc ?_
  refine Road.if_ne 10 17 bIl1_d10 rfl (fun hc10 => ?_) (fun q => absurd q (by decide))
  refine Road.iconst 17 (0 : Int32) bIl1_d17 rfl ?_
  exact Road.iret 18 0 bIl1_d18 (t := .boolean) rfl (by simp) rfl (by decide) (by decide) (fun σ' m => ⟨rfl, rfl⟩)
def bCh1 : Road.Bdy := (⟨"java/lang/String", "charAt", "(I)C"⟩, jdk_42_method_56_code, 2, (some .char), { frames := 4, cells := 0, slots := 0, locals := 53 })
theorem bCh1_d0 : decode bCh1.bs 0 = .ok (.aload_n 0, 1) := by decide +kernel
theorem bCh1_d1 : decode bCh1.bs 1 = .ok (.invokevirtual 492, 3) := by decide +kernel
theorem bCh1_d4 : decode bCh1.bs 4 = .ok (.ifCond .eq 12, 3) := by decide +kernel
theorem bCh1_d7 : decode bCh1.bs 7 = .ok (.aload_n 0, 1) := by decide +kernel
theorem bCh1_d8 : decode bCh1.bs 8 = .ok (.getfield 9, 3) := by decide +kernel
theorem bCh1_d11 : decode bCh1.bs 11 = .ok (.iload_n 1, 1) := by decide +kernel
theorem bCh1_d12 : decode bCh1.bs 12 = .ok (.invokestatic 495, 3) := by decide +kernel
theorem bCh1_d15 : decode bCh1.bs 15 = .ok (.ireturn, 1) := by decide +kernel
theorem bCh1_d16 : decode bCh1.bs 16 = .ok (.aload_n 0, 1) := by decide +kernel
theorem bCh1_d17 : decode bCh1.bs 17 = .ok (.getfield 9, 3) := by decide +kernel
theorem bCh1_d20 : decode bCh1.bs 20 = .ok (.iload_n 1, 1) := by decide +kernel
theorem bCh1_d21 : decode bCh1.bs 21 = .ok (.invokestatic 498, 3) := by decide +kernel
theorem bCh1_d24 : decode bCh1.bs 24 = .ok (.ireturn, 1) := by decide +kernel
theorem bCh1_pd : parseMethodDescriptor "(I)C" = some ⟨[.int], (some .char)⟩ := by decide +kernel
theorem bCh1_pn : plainFor bCh1.y = true := plainFor_of_name (show plainName "java/lang/String" = true from by first | (simp [plainName, overriddenIn]; done) | decide +kernel)
theorem cCh1 (l : Launch) (Z : State) (a0 : Array Value) (hw : ∀ d ∈ tables_1, d.before a0 Z = true) (n0 : Nat) (hEW : EW Z a0 consts_1) (s sb : Addr) (ds : List Int32) (i : Nat) (h0 : Heap) (σ : Addr → Prop) (T : Road.Str16 Z h0 s sb ds) (hi : i < ds.length) (cp : Int32) (Hc : Sta Z Z.heap Road.SN "COMPACT_STRINGS" "Z" (.int cp)) (hcp : ¬ cp = 0) (fm : Value) (hfm : fm.isRef = true) (Hf : Sta Z Z.heap "jdk/internal/util/Preconditions" "SIOOBE_FORMATTER" "Ljava/util/function/BiFunction;" fm) (H0 : Sta Z Z.heap "java/lang/StringUTF16" "$assertionsDisabled" "Z" (.int 1)) (H1 : Sta Z Z.heap "java/lang/StringUTF16" "HI_BYTE_SHIFT" "I" (.int 0)) (H2 : Sta Z Z.heap "java/lang/StringUTF16" "LO_BYTE_SHIFT" "I" (.int 8)) :
    Road.Con l Z consts_1 n0 false bCh1 [] σ #[(.ref s), (.int (Nat.toInt32 i))] h0 (fun v h2 _ => v = some (.int ds[i]) ∧ h0 = h2) := by
  refine Road.Con.of bCh1_pn hEW #[.val (.ref s), .val (.int (Nat.toInt32 i))] (fun m => Road.ent (Road.laid1 rfl (Road.laid1 rfl Road.laid0)) (k := 0) rfl rfl) ?_
  intro D hD
  refine Road.aloadN 0 bCh1_d0 rfl ?_
  refine Road.callV (B' := bIl1) (a := s) 1 (argsL := []) (rest := []) "java/lang/String" 0 bCh1_d1 (wI hw 202 rfl) (wI hw 203 rfl) (fun vm hz => Road.notFace_sib (args := #[]) (mv (s := D.s.setVm vm) hz (wI hw 83 rfl)) rfl) (wI hw 205 rfl) (wI hw 204 rfl) (wI hw 7 rfl) (wI hw 206 rfl) (by decide) T.1 (cIl1 l Z a0 hw n0 hEW s h0 σ T.2.1 cp Hc hcp) (lenOf bIl1_pd rfl) rfl rfl rfl (by decide) (by decide) (ce' := 0) (sl' := 0) rfl rfl (by decide) (by decide) ?_
  rintro _ h_1 σ_2 m_3 ⟨rfl, rfl⟩
  refine Road.Go.weaken (σ' := σ) m_3 (Nat.le_refl _) (Nat.le_refl _) ?_
  refine Road.if_eq 4 16 bCh1_d4 rfl (fun hc4 => ?_) (fun q => absurd q (by decide))
  refine Road.aloadN 16 bCh1_d16 rfl ?_
  refine Road.getfield 17 bCh1_d17 (wI hw 33 rfl) Via.refl T.2.2.1 ?_
  refine Road.iloadN 20 bCh1_d20 rfl ?_
  refine Road.callS (B' := bUca) 21 (argsL := [(.ref sb), (.int (Nat.toInt32 i))]) (rest := []) 0 bCh1_d21 (wI hw 280 rfl) (wI hw 281 rfl) (wI hw 22 rfl) (wI hw 282 rfl) (by decide) (cUca l Z a0 hw n0 hEW sb ds i h0 σ T.2.2.2.1 T.2.2.2.2.1 hi fm hfm Hf H0 H1 H2) (lenOf bUca_pd rfl) rfl rfl rfl (by decide) (by decide) (ce' := 0) (sl' := 0) rfl rfl (by decide) (by decide) ?_
  rintro _ h_5 σ_6 m_7 ⟨rfl, rfl⟩
  refine Road.Go.weaken (σ' := σ) m_7 (Nat.le_refl _) (Nat.le_refl _) ?_
  exact Road.iret 24 ds[i] bCh1_d24 (t := .char) rfl (by simp) (Road.nar16 (T.2.2.2.2.1 _ (List.getElem_mem hi))) (by decide) (by decide) (fun σ' m => ⟨rfl, rfl⟩)
def bAbL : Road.Bdy := (⟨"java/lang/AbstractStringBuilder", "isLatin1", "()Z"⟩, jdk_68_method_68_code, 1, (some .boolean), { frames := 0, cells := 0, slots := 0, locals := 0 })
theorem bAbL_pd : parseMethodDescriptor "()Z" = some ⟨[], (some .boolean)⟩ := by decide +kernel
theorem bAbL_pn : plainFor bAbL.y = true := plainFor_of_name (show plainName "java/lang/AbstractStringBuilder" = true from by first | (simp [plainName, overriddenIn]; done) | decide +kernel)
theorem cAbL (l : Launch) (Z : State) (a0 : Array Value) (hw : ∀ d ∈ tables_1, d.before a0 Z = true) (n0 : Nat) (hEW : EW Z a0 consts_1) (q : Addr) (h0 : Heap) (σ : Addr → Prop) (Fc : Fld Z h0 q Road.AB "coder" "B" (.int 0)) (cp : Int32) (Hc : Sta Z Z.heap Road.SN "COMPACT_STRINGS" "Z" (.int cp)) (hcp : ¬ cp = 0) :
    Road.Con l Z consts_1 n0 false bAbL [] σ #[(.ref q)] h0 (fun v h2 _ => v = some (.int 1) ∧ h0 = h2) := by
  refine Road.Con.of bAbL_pn hEW #[.val (.ref q)] (fun m => Road.ent (Road.laid1 rfl Road.laid0) (k := 0) rfl rfl) ?_
  intro D hD
  refine Road.getstatic 0 bAL0_d0 (wI hw 58 rfl) Via.refl Hc ?_
  refine Road.if_eq 3 17 bAL0_d3 rfl (fun q => absurd q hcp) (fun hc3 => ?_)
  refine Road.aloadN 6 bAL0_d6 rfl ?_
  refine Road.getfield 7 bAL0_d7 (wI hw 61 rfl) Via.refl Fc ?_
  refine Road.if_ne 10 17 bAL0_d10 rfl (fun q => absurd q (by decide)) (fun hc10 => ?_)
  refine Road.iconst 13 (1 : Int32) bAL0_d13 rfl ?_
  refine Road.goto 14 18 bAL0_d14 rfl ?_
  exact Road.iret 18 1 bAL0_d18 (t := .boolean) rfl (by simp) rfl (by decide) (by decide) (fun σ' m => ⟨rfl, rfl⟩)
def bChL : Road.Bdy := (⟨"java/util/Arrays", "checkLength", "(II)V"⟩, jdk_65_method_131_code, 2, none, { frames := 0, cells := 0, slots := 0, locals := 0 })
theorem bChL_d0 : decode bChL.bs 0 = .ok (.iload_n 1, 1) := by decide +kernel
theorem bChL_d1 : decode bChL.bs 1 = .ok (.iload_n 0, 1) := by decide +kernel
theorem bChL_d2 : decode bChL.bs 2 = .ok (.if_icmp .ge 35, 3) := by decide +kernel
theorem bChL_d5 : decode bChL.bs 5 = .ok (.new 43, 3) := by decide +kernel
theorem bChL_d8 : decode bChL.bs 8 = .ok (.dup, 1) := by decide +kernel
theorem bChL_d9 : decode bChL.bs 9 = .ok (.new 45, 3) := by decide +kernel
theorem bChL_d12 : decode bChL.bs 12 = .ok (.dup, 1) := by decide +kernel
theorem bChL_d13 : decode bChL.bs 13 = .ok (.invokespecial 47, 3) := by decide +kernel
theorem bChL_d16 : decode bChL.bs 16 = .ok (.iload_n 0, 1) := by decide +kernel
theorem bChL_d17 : decode bChL.bs 17 = .ok (.invokevirtual 54, 3) := by decide +kernel
theorem bChL_d20 : decode bChL.bs 20 = .ok (.ldc_w 337, 3) := by decide +kernel
theorem bChL_d23 : decode bChL.bs 23 = .ok (.invokevirtual 50, 3) := by decide +kernel
theorem bChL_d26 : decode bChL.bs 26 = .ok (.iload_n 1, 1) := by decide +kernel
theorem bChL_d27 : decode bChL.bs 27 = .ok (.invokevirtual 54, 3) := by decide +kernel
theorem bChL_d30 : decode bChL.bs 30 = .ok (.invokevirtual 61, 3) := by decide +kernel
theorem bChL_d33 : decode bChL.bs 33 = .ok (.invokespecial 65, 3) := by decide +kernel
theorem bChL_d36 : decode bChL.bs 36 = .ok (.athrow, 1) := by decide +kernel
theorem bChL_d37 : decode bChL.bs 37 = .ok (.return_, 1) := by decide +kernel
theorem bChL_pd : parseMethodDescriptor "(II)V" = some ⟨[.int, .int], none⟩ := by decide +kernel
theorem bChL_pn : plainFor bChL.y = true := plainFor_of_name (show plainName "java/util/Arrays" = true from by first | (simp [plainName, overriddenIn]; done) | decide +kernel)
theorem cChL (l : Launch) (Z : State) (a0 : Array Value) (hw : ∀ d ∈ tables_1, d.before a0 Z = true) (n0 : Nat) (hEW : EW Z a0 consts_1) (n : Nat) (h0 : Heap) (σ : Addr → Prop) (hn : n < 2147483648) :
    Road.Con l Z consts_1 n0 false bChL [] σ #[(.int (0 : Int32)), (.int (Nat.toInt32 n))] h0 (fun v h2 _ => v = none ∧ h0 = h2) := by
  refine Road.Con.of bChL_pn hEW #[.val (.int (0 : Int32)), .val (.int (Nat.toInt32 n))] (fun m => Road.ent (Road.laid1 rfl (Road.laid1 rfl Road.laid0)) (k := 0) rfl rfl) ?_
  intro D hD
  refine Road.iloadN 0 bChL_d0 rfl ?_
  refine Road.iloadN 1 bChL_d1 rfl ?_
  refine Road.icmp_ge 2 37 bChL_d2 rfl (fun hc2 => ?_) (fun q => absurd q (by rw [show (0 : Int32) = Nat.toInt32 0 from rfl, Road.lt32 hn (by omega)]; omega))
  exact Road.ret 37 bChL_d37 rfl (by decide) (by decide) (fun σ' m => ⟨rfl, rfl⟩)
def bCrB : Road.Bdy := (⟨"java/util/Arrays", "copyOfRangeByte", "([BII)[B"⟩, jdk_65_method_133_code, 5, (some (.array .byte)), { frames := 1, cells := 1, slots := 68, locals := 22 })
theorem bCrB_d0 : decode bCrB.bs 0 = .ok (.iload_n 1, 1) := by decide +kernel
theorem bCrB_d1 : decode bCrB.bs 1 = .ok (.iload_n 2, 1) := by decide +kernel
theorem bCrB_d2 : decode bCrB.bs 2 = .ok (.invokestatic 343, 3) := by decide +kernel
theorem bCrB_d5 : decode bCrB.bs 5 = .ok (.iload_n 2, 1) := by decide +kernel
theorem bCrB_d6 : decode bCrB.bs 6 = .ok (.iload_n 1, 1) := by decide +kernel
theorem bCrB_d7 : decode bCrB.bs 7 = .ok (.isub, 1) := by decide +kernel
theorem bCrB_d8 : decode bCrB.bs 8 = .ok (.istore_n 3, 1) := by decide +kernel
theorem bCrB_d9 : decode bCrB.bs 9 = .ok (.iload_n 3, 1) := by decide +kernel
theorem bCrB_d10 : decode bCrB.bs 10 = .ok (.newarray .byte, 2) := by decide +kernel
theorem bCrB_d12 : decode bCrB.bs 12 = .ok (.astore 4, 2) := by decide +kernel
theorem bCrB_d14 : decode bCrB.bs 14 = .ok (.aload_n 0, 1) := by decide +kernel
theorem bCrB_d15 : decode bCrB.bs 15 = .ok (.iload_n 1, 1) := by decide +kernel
theorem bCrB_d16 : decode bCrB.bs 16 = .ok (.aload 4, 2) := by decide +kernel
theorem bCrB_d18 : decode bCrB.bs 18 = .ok (.iconst 0, 1) := by decide +kernel
theorem bCrB_d19 : decode bCrB.bs 19 = .ok (.aload_n 0, 1) := by decide +kernel
theorem bCrB_d20 : decode bCrB.bs 20 = .ok (.arraylength, 1) := by decide +kernel
theorem bCrB_d21 : decode bCrB.bs 21 = .ok (.iload_n 1, 1) := by decide +kernel
theorem bCrB_d22 : decode bCrB.bs 22 = .ok (.isub, 1) := by decide +kernel
theorem bCrB_d23 : decode bCrB.bs 23 = .ok (.iload_n 3, 1) := by decide +kernel
theorem bCrB_d24 : decode bCrB.bs 24 = .ok (.invokestatic 304, 3) := by decide +kernel
theorem bCrB_d27 : decode bCrB.bs 27 = .ok (.invokestatic 150, 3) := by decide +kernel
theorem bCrB_d30 : decode bCrB.bs 30 = .ok (.aload 4, 2) := by decide +kernel
theorem bCrB_d32 : decode bCrB.bs 32 = .ok (.areturn, 1) := by decide +kernel
theorem bCrB_pd : parseMethodDescriptor "([BII)[B" = some ⟨[(.array .byte), .int, .int], (some (.array .byte))⟩ := by decide +kernel
theorem bCrB_pn : plainFor bCrB.y = true := plainFor_of_name (show plainName "java/util/Arrays" = true from by first | (simp [plainName, overriddenIn]; done) | decide +kernel)
theorem cCrB (l : Launch) (Z : State) (a0 : Array Value) (hw : ∀ d ∈ tables_1, d.before a0 Z = true) (n0 : Nat) (hEW : EW Z a0 consts_1) (b : Addr) (vs : List Value) (n : Nat) (h0 : Heap) (σ : Addr → Prop) (A : Road.Ary Z h0 b .byte vs) (hn : n < vs.length) (hcap : n ≤ 68) :
    Road.Con l Z consts_1 n0 false bCrB [] σ #[(.ref b), (.int (0 : Int32)), (.int (Nat.toInt32 n))] h0 (fun v h2 s2 => ∃ d, v = some (.ref d) ∧ h0.size ≤ d ∧ Keep h0 h2 [] ∧ s2 d ∧ Road.Ary Z h2 d .byte (vs.take n)) := by
  have hsm := A.small
  refine Road.Con.of bCrB_pn hEW #[.val (.ref b), .val (.int (0 : Int32)), .val (.int (Nat.toInt32 n)), .unset, .unset] (fun m => Road.ent (Road.laid1 rfl (Road.laid1 rfl (Road.laid1 rfl Road.laid0))) (k := 2) rfl rfl) ?_
  intro D hD
  refine Road.iloadN 0 bCrB_d0 rfl ?_
  refine Road.iloadN 1 bCrB_d1 rfl ?_
  refine Road.callS (B' := bChL) 2 (argsL := [(.int (0 : Int32)), (.int (Nat.toInt32 n))]) (rest := []) 0 bCrB_d2 (wI hw 178 rfl) (wI hw 179 rfl) (wI hw 173 rfl) (wI hw 180 rfl) (by decide) (cChL l Z a0 hw n0 hEW n h0 σ (by omega)) (lenOf bChL_pd rfl) rfl rfl rfl (by decide) (by decide) (ce' := 0) (sl' := 0) rfl rfl (by decide) (by decide) ?_
  rintro _ h_1 σ_2 m_3 ⟨rfl, rfl⟩
  refine Road.Go.weaken (σ' := σ) m_3 (Nat.le_refl _) (Nat.le_refl _) ?_
  refine Road.iloadN 5 bCrB_d5 rfl ?_
  refine Road.iloadN 6 bCrB_d6 rfl ?_
  refine Road.isub 7 bCrB_d7 ?_
  refine Road.nameI ?_
  intro z_5 hz_5
  obtain rfl : z_5 = (Nat.toInt32 n) := by rw [hz_5]; exact Int32.sub_zero _
  refine Road.istoreN 8 #[.val (.ref b), .val (.int (0 : Int32)), .val (.int (Nat.toInt32 n)), .val (.int (Nat.toInt32 n)), .unset] bCrB_d8 rfl ?_
  refine Road.iloadN 9 bCrB_d9 rfl ?_
  refine Road.newarray 10 .byte n 68 bCrB_d10 rfl (wI hw 24 rfl) (Road.n32 (by omega)) hcap (by decide) (ce' := 1) (sl' := 68) rfl rfl (by decide) (by decide) ?_
  intro d h_6 σ_7 g_8 K_9 lt_10 m_11 s_12 Ad
  have ne_b_d : b ≠ d := Nat.ne_of_lt (Nat.lt_of_lt_of_le A.lt (Nat.le_of_eq g_8.symm))
  replace A := A.keep K_9 nin0
  refine Road.astore 12 #[.val (.ref b), .val (.int (0 : Int32)), .val (.int (Nat.toInt32 n)), .val (.int (Nat.toInt32 n)), .val (.ref d)] bCrB_d12 rfl ?_
  refine Road.aloadN 14 bCrB_d14 rfl ?_
  refine Road.iloadN 15 bCrB_d15 rfl ?_
  refine Road.aload 16 bCrB_d16 rfl ?_
  refine Road.iconst 18 (0 : Int32) bCrB_d18 rfl ?_
  refine Road.aloadN 19 bCrB_d19 rfl ?_
  refine Road.alen 20 (Nat.toInt32 vs.length) bCrB_d20 A (n := vs.length) rfl rfl ?_
  refine Road.iloadN 21 bCrB_d21 rfl ?_
  refine Road.isub 22 bCrB_d22 ?_
  refine Road.nameI ?_
  intro z_13 hz_13
  obtain rfl : z_13 = (Nat.toInt32 vs.length) := by rw [hz_13]; exact Int32.sub_zero _
  refine Road.iloadN 23 bCrB_d23 rfl ?_
  refine Road.callS (B' := bMin) 24 (argsL := [(.int (Nat.toInt32 vs.length)), (.int (Nat.toInt32 n))]) (rest := [(.int (0 : Int32)), (.ref d), (.int (0 : Int32)), (.ref b)]) 4 bCrB_d24 (wI hw 181 rfl) (wI hw 182 rfl) (wI hw 183 rfl) (wI hw 184 rfl) (by decide) (cMin l Z a0 hw n0 hEW vs.length n h_6 σ_7 hsm (by omega)) (lenOf bMin_pd rfl) rfl rfl rfl (by decide) (by decide) (ce' := 1) (sl' := 68) rfl rfl (by decide) (by decide) ?_
  rintro _ h_14 σ_15 m_16 ⟨rfl, rfl⟩
  refine Road.Go.weaken (σ' := σ_7) m_16 (Nat.le_refl _) (Nat.le_refl _) ?_
  refine Road.acopy 27 0 0 n 0 bCrB_d27 (wI hw 185 rfl) (wI hw 116 rfl) (wI hw 114 rfl) (wI hw 115 rfl) A Ad rfl rfl rfl (by rw [Nat.min_eq_right (by omega)]; exact Road.n32 (by omega)) (by omega) (by rw [List.length_replicate]; omega) s_12 rfl rfl (by decide) (by decide) ?_
  intro h_18 K_19 Ae
  replace A := A.keep K_19 (ninS ne_b_d nin0)
  refine Road.aload 30 bCrB_d30 rfl ?_
  exact Road.aret 32 bCrB_d32 (t := (.array .byte)) rfl rfl rfl (by decide) (by decide) (fun σ' m => ⟨d, rfl, Nat.le_of_eq g_8.symm, K_9.trans K_19 (by intro x hx; cases List.mem_singleton.mp hx; exact Or.inr (Nat.le_of_eq g_8.symm)), m _ s_12, by simpa using Ae⟩)
def bCrR : Road.Bdy := (⟨"java/util/Arrays", "copyOfRange", "([BII)[B"⟩, jdk_65_method_132_code, 3, (some (.array .byte)), { frames := 2, cells := 1, slots := 68, locals := 38 })
theorem bCrR_d0 : decode bCrR.bs 0 = .ok (.iload_n 1, 1) := by decide +kernel
theorem bCrR_d1 : decode bCrR.bs 1 = .ok (.ifCond .ne 9, 3) := by decide +kernel
theorem bCrR_d4 : decode bCrR.bs 4 = .ok (.iload_n 2, 1) := by decide +kernel
theorem bCrR_d5 : decode bCrR.bs 5 = .ok (.aload_n 0, 1) := by decide +kernel
theorem bCrR_d6 : decode bCrR.bs 6 = .ok (.arraylength, 1) := by decide +kernel
theorem bCrR_d7 : decode bCrR.bs 7 = .ok (.if_icmp .eq 10, 3) := by decide +kernel
theorem bCrR_d10 : decode bCrR.bs 10 = .ok (.aload_n 0, 1) := by decide +kernel
theorem bCrR_d11 : decode bCrR.bs 11 = .ok (.iload_n 1, 1) := by decide +kernel
theorem bCrR_d12 : decode bCrR.bs 12 = .ok (.iload_n 2, 1) := by decide +kernel
theorem bCrR_d13 : decode bCrR.bs 13 = .ok (.invokestatic 339, 3) := by decide +kernel
theorem bCrR_d16 : decode bCrR.bs 16 = .ok (.areturn, 1) := by decide +kernel
theorem bCrR_d17 : decode bCrR.bs 17 = .ok (.aload_n 0, 1) := by decide +kernel
theorem bCrR_d18 : decode bCrR.bs 18 = .ok (.invokevirtual 310, 3) := by decide +kernel
theorem bCrR_d21 : decode bCrR.bs 21 = .ok (.checkcast 311, 3) := by decide +kernel
theorem bCrR_d24 : decode bCrR.bs 24 = .ok (.areturn, 1) := by decide +kernel
theorem bCrR_pd : parseMethodDescriptor "([BII)[B" = some ⟨[(.array .byte), .int, .int], (some (.array .byte))⟩ := by decide +kernel
theorem bCrR_pn : plainFor bCrR.y = true := plainFor_of_name (show plainName "java/util/Arrays" = true from by first | (simp [plainName, overriddenIn]; done) | decide +kernel)
theorem cCrR (l : Launch) (Z : State) (a0 : Array Value) (hw : ∀ d ∈ tables_1, d.before a0 Z = true) (n0 : Nat) (hEW : EW Z a0 consts_1) (b : Addr) (vs : List Value) (n : Nat) (h0 : Heap) (σ : Addr → Prop) (A : Road.Ary Z h0 b .byte vs) (hn : n < vs.length) (hcap : n ≤ 68) :
    Road.Con l Z consts_1 n0 false bCrR [] σ #[(.ref b), (.int (0 : Int32)), (.int (Nat.toInt32 n))] h0 (fun v h2 s2 => ∃ d, v = some (.ref d) ∧ h0.size ≤ d ∧ Keep h0 h2 [] ∧ s2 d ∧ Road.Ary Z h2 d .byte (vs.take n)) := by
  have hsm := A.small
  refine Road.Con.of bCrR_pn hEW #[.val (.ref b), .val (.int (0 : Int32)), .val (.int (Nat.toInt32 n))] (fun m => Road.ent (Road.laid1 rfl (Road.laid1 rfl (Road.laid1 rfl Road.laid0))) (k := 0) rfl rfl) ?_
  intro D hD
  refine Road.iloadN 0 bCrR_d0 rfl ?_
  refine Road.if_ne 1 10 bCrR_d1 rfl (fun q => absurd q (by decide)) (fun hc1 => ?_)
  refine Road.iloadN 4 bCrR_d4 rfl ?_
  refine Road.aloadN 5 bCrR_d5 rfl ?_
  refine Road.alen 6 (Nat.toInt32 vs.length) bCrR_d6 A (n := vs.length) rfl rfl ?_
  refine Road.icmp_eq 7 17 bCrR_d7 rfl (fun q => absurd q (by rw [Road.eq32 (by omega) hsm]; omega)) (fun hc7 => ?_)
  refine Road.aloadN 10 bCrR_d10 rfl ?_
  refine Road.iloadN 11 bCrR_d11 rfl ?_
  refine Road.iloadN 12 bCrR_d12 rfl ?_
  refine Road.callS (B' := bCrB) 13 (argsL := [(.ref b), (.int (0 : Int32)), (.int (Nat.toInt32 n))]) (rest := []) 0 bCrR_d13 (wI hw 175 rfl) (wI hw 176 rfl) (wI hw 173 rfl) (wI hw 177 rfl) (by decide) (cCrB l Z a0 hw n0 hEW b vs n h0 σ A hn hcap) (lenOf bCrB_pd rfl) rfl rfl rfl (by decide) (by decide) (ce' := 1) (sl' := 68) rfl rfl (by decide) (by decide) ?_
  rintro _ h_1 σ_2 m_3 ⟨d, rfl, gd, K_4, sd, Ad⟩
  exact Road.aret 16 bCrR_d16 (t := (.array .byte)) rfl rfl rfl (by decide) (by decide) (fun σ' m => ⟨d, rfl, gd, K_4, m _ sd, Ad⟩)
def bGtV : Road.Bdy := (⟨"java/lang/AbstractStringBuilder", "getValue", "()[B"⟩, jdk_68_method_64_code, 1, (some (.array .byte)), { frames := 0, cells := 0, slots := 0, locals := 0 })
theorem bGtV_d0 : decode bGtV.bs 0 = .ok (.aload_n 0, 1) := by decide +kernel
theorem bGtV_d1 : decode bGtV.bs 1 = .ok (.getfield 15, 3) := by decide +kernel
theorem bGtV_d4 : decode bGtV.bs 4 = .ok (.areturn, 1) := by decide +kernel
theorem bGtV_pd : parseMethodDescriptor "()[B" = some ⟨[], (some (.array .byte))⟩ := by decide +kernel
theorem bGtV_pn : plainFor bGtV.y = true := plainFor_of_name (show plainName "java/lang/AbstractStringBuilder" = true from by first | (simp [plainName, overriddenIn]; done) | decide +kernel)
theorem cGtV (l : Launch) (Z : State) (a0 : Array Value) (hw : ∀ d ∈ tables_1, d.before a0 Z = true) (n0 : Nat) (hEW : EW Z a0 consts_1) (q b : Addr) (h0 : Heap) (σ : Addr → Prop) (Fv : Fld Z h0 q Road.AB "value" "[B" (.ref b)) :
    Road.Con l Z consts_1 n0 false bGtV [] σ #[(.ref q)] h0 (fun v h2 _ => v = some (.ref b) ∧ h0 = h2) := by
  refine Road.Con.of bGtV_pn hEW #[.val (.ref q)] (fun m => Road.ent (Road.laid1 rfl Road.laid0) (k := 0) rfl rfl) ?_
  intro D hD
  refine Road.aloadN 0 bGtV_d0 rfl ?_
  refine Road.getfield 1 bGtV_d1 (wI hw 59 rfl) Via.refl Fv ?_
  exact Road.aret 4 bGtV_d4 (t := (.array .byte)) rfl rfl rfl (by decide) (by decide) (fun σ' m => ⟨rfl, rfl⟩)
def bAbN : Road.Bdy := (⟨"java/lang/AbstractStringBuilder", "length", "()I"⟩, jdk_68_method_6_code, 1, (some .int), { frames := 0, cells := 0, slots := 0, locals := 0 })
theorem bAbN_d0 : decode bAbN.bs 0 = .ok (.aload_n 0, 1) := by decide +kernel
theorem bAbN_d1 : decode bAbN.bs 1 = .ok (.getfield 79, 3) := by decide +kernel
theorem bAbN_d4 : decode bAbN.bs 4 = .ok (.ireturn, 1) := by decide +kernel
theorem bAbN_pd : parseMethodDescriptor "()I" = some ⟨[], (some .int)⟩ := by decide +kernel
theorem bAbN_pn : plainFor bAbN.y = true := plainFor_of_name (show plainName "java/lang/AbstractStringBuilder" = true from by first | (simp [plainName, overriddenIn]; done) | decide +kernel)
theorem cAbN (l : Launch) (Z : State) (a0 : Array Value) (hw : ∀ d ∈ tables_1, d.before a0 Z = true) (n0 : Nat) (hEW : EW Z a0 consts_1) (q : Addr) (n : Int32) (h0 : Heap) (σ : Addr → Prop) (Fn : Fld Z h0 q Road.AB "count" "I" (.int n)) :
    Road.Con l Z consts_1 n0 false bAbN [] σ #[(.ref q)] h0 (fun v h2 _ => v = some (.int n) ∧ h0 = h2) := by
  refine Road.Con.of bAbN_pn hEW #[.val (.ref q)] (fun m => Road.ent (Road.laid1 rfl Road.laid0) (k := 0) rfl rfl) ?_
  intro D hD
  refine Road.aloadN 0 bAbN_d0 rfl ?_
  refine Road.getfield 1 bAbN_d1 (wI hw 90 rfl) Via.refl Fn ?_
  exact Road.iretI 4 bAbN_d4 rfl (by decide) (by decide) (fun σ' m => ⟨rfl, rfl⟩)
def bSbN : Road.Bdy := (⟨"java/lang/StringBuilder", "length", "()I"⟩, jdk_67_method_93_code, 1, (some .int), { frames := 1, cells := 0, slots := 0, locals := 12 })
theorem bSbN_d0 : decode bSbN.bs 0 = .ok (.aload_n 0, 1) := by decide +kernel
theorem bSbN_d1 : decode bSbN.bs 1 = .ok (.invokespecial 343, 3) := by decide +kernel
theorem bSbN_d4 : decode bSbN.bs 4 = .ok (.ireturn, 1) := by decide +kernel
theorem bSbN_pd : parseMethodDescriptor "()I" = some ⟨[], (some .int)⟩ := by decide +kernel
theorem bSbN_pn : plainFor bSbN.y = true := plainFor_of_name (show plainName "java/lang/StringBuilder" = true from by first | (simp [plainName, overriddenIn]; done) | decide +kernel)
theorem cSbN (l : Launch) (Z : State) (a0 : Array Value) (hw : ∀ d ∈ tables_1, d.before a0 Z = true) (n0 : Nat) (hEW : EW Z a0 consts_1) (q : Addr) (n : Int32) (h0 : Heap) (σ : Addr → Prop) (E : Exa Z h0 q Road.SB) (Fn : Fld Z h0 q Road.AB "count" "I" (.int n)) :
    Road.Con l Z consts_1 n0 false bSbN [] σ #[(.ref q)] h0 (fun v h2 _ => v = some (.int n) ∧ h0 = h2) := by
  refine Road.Con.of bSbN_pn hEW #[.val (.ref q)] (fun m => Road.ent (Road.laid1 rfl Road.laid0) (k := 0) rfl rfl) ?_
  intro D hD
  refine Road.aloadN 0 bSbN_d0 rfl ?_
  refine Road.callUp (B' := bAbN) (a := q) 1 (argsL := []) (rest := []) "java/lang/StringBuilder" 0 bSbN_d1 (wI hw 168 rfl) (Road.notFace_sib (wI hw 95 rfl) rfl) (wI hw 164 rfl) (wI hw 77 rfl) (wI hw 55 rfl) (wI hw 169 rfl) (by decide) (by decide) E (cAbN l Z a0 hw n0 hEW q n h0 σ Fn) (lenOf bAbN_pd rfl) rfl rfl rfl (by decide) (by decide) (ce' := 0) (sl' := 0) rfl rfl (by decide) (by decide) ?_
  rintro _ h_1 σ_2 m_3 ⟨rfl, rfl⟩
  refine Road.Go.weaken (σ' := σ) m_3 (Nat.le_refl _) (Nat.le_refl _) ?_
  exact Road.iretI 4 bSbN_d4 rfl (by decide) (by decide) (fun σ' m => ⟨rfl, rfl⟩)
def bStV : Road.Bdy := (⟨"java/lang/String", "<init>", "(Ljava/lang/AbstractStringBuilder;Ljava/lang/Void;)V"⟩, jdk_42_method_150_code, 5, none, { frames := 3, cells := 1, slots := 68, locals := 53 })
theorem bStV_d0 : decode bStV.bs 0 = .ok (.aload_n 0, 1) := by decide +kernel
theorem bStV_d1 : decode bStV.bs 1 = .ok (.invokespecial 1, 3) := by decide +kernel
theorem bStV_d4 : decode bStV.bs 4 = .ok (.aload_n 1, 1) := by decide +kernel
theorem bStV_d5 : decode bStV.bs 5 = .ok (.invokevirtual 552, 3) := by decide +kernel
theorem bStV_d8 : decode bStV.bs 8 = .ok (.astore_n 3, 1) := by decide +kernel
theorem bStV_d9 : decode bStV.bs 9 = .ok (.aload_n 1, 1) := by decide +kernel
theorem bStV_d10 : decode bStV.bs 10 = .ok (.invokevirtual 549, 3) := by decide +kernel
theorem bStV_d13 : decode bStV.bs 13 = .ok (.istore 4, 2) := by decide +kernel
theorem bStV_d15 : decode bStV.bs 15 = .ok (.aload_n 1, 1) := by decide +kernel
theorem bStV_d16 : decode bStV.bs 16 = .ok (.invokevirtual 1047, 3) := by decide +kernel
theorem bStV_d19 : decode bStV.bs 19 = .ok (.ifCond .eq 22, 3) := by decide +kernel
theorem bStV_d22 : decode bStV.bs 22 = .ok (.aload_n 0, 1) := by decide +kernel
theorem bStV_d23 : decode bStV.bs 23 = .ok (.iconst 0, 1) := by decide +kernel
theorem bStV_d24 : decode bStV.bs 24 = .ok (.putfield 15, 3) := by decide +kernel
theorem bStV_d27 : decode bStV.bs 27 = .ok (.aload_n 0, 1) := by decide +kernel
theorem bStV_d28 : decode bStV.bs 28 = .ok (.aload_n 3, 1) := by decide +kernel
theorem bStV_d29 : decode bStV.bs 29 = .ok (.iconst 0, 1) := by decide +kernel
theorem bStV_d30 : decode bStV.bs 30 = .ok (.iload 4, 2) := by decide +kernel
theorem bStV_d32 : decode bStV.bs 32 = .ok (.invokestatic 54, 3) := by decide +kernel
theorem bStV_d35 : decode bStV.bs 35 = .ok (.putfield 9, 3) := by decide +kernel
theorem bStV_d38 : decode bStV.bs 38 = .ok (.goto 59, 3) := by decide +kernel
theorem bStV_d41 : decode bStV.bs 41 = .ok (.getstatic 38, 3) := by decide +kernel
theorem bStV_d44 : decode bStV.bs 44 = .ok (.ifCond .eq 35, 3) := by decide +kernel
theorem bStV_d47 : decode bStV.bs 47 = .ok (.aload_n 1, 1) := by decide +kernel
theorem bStV_d48 : decode bStV.bs 48 = .ok (.getfield 1048, 3) := by decide +kernel
theorem bStV_d51 : decode bStV.bs 51 = .ok (.ifCond .eq 28, 3) := by decide +kernel
theorem bStV_d54 : decode bStV.bs 54 = .ok (.aload_n 0, 1) := by decide +kernel
theorem bStV_d55 : decode bStV.bs 55 = .ok (.aload_n 3, 1) := by decide +kernel
theorem bStV_d56 : decode bStV.bs 56 = .ok (.iconst 0, 1) := by decide +kernel
theorem bStV_d57 : decode bStV.bs 57 = .ok (.iload 4, 2) := by decide +kernel
theorem bStV_d59 : decode bStV.bs 59 = .ok (.invokestatic 1051, 3) := by decide +kernel
theorem bStV_d62 : decode bStV.bs 62 = .ok (.putfield 9, 3) := by decide +kernel
theorem bStV_d65 : decode bStV.bs 65 = .ok (.aload_n 0, 1) := by decide +kernel
theorem bStV_d66 : decode bStV.bs 66 = .ok (.aload_n 0, 1) := by decide +kernel
theorem bStV_d67 : decode bStV.bs 67 = .ok (.getfield 9, 3) := by decide +kernel
theorem bStV_d70 : decode bStV.bs 70 = .ok (.iload 4, 2) := by decide +kernel
theorem bStV_d72 : decode bStV.bs 72 = .ok (.invokestatic 47, 3) := by decide +kernel
theorem bStV_d75 : decode bStV.bs 75 = .ok (.putfield 15, 3) := by decide +kernel
theorem bStV_d78 : decode bStV.bs 78 = .ok (.return_, 1) := by decide +kernel
theorem bStV_d79 : decode bStV.bs 79 = .ok (.aload_n 0, 1) := by decide +kernel
theorem bStV_d80 : decode bStV.bs 80 = .ok (.iconst 1, 1) := by decide +kernel
theorem bStV_d81 : decode bStV.bs 81 = .ok (.putfield 15, 3) := by decide +kernel
theorem bStV_d84 : decode bStV.bs 84 = .ok (.aload_n 0, 1) := by decide +kernel
theorem bStV_d85 : decode bStV.bs 85 = .ok (.aload_n 3, 1) := by decide +kernel
theorem bStV_d86 : decode bStV.bs 86 = .ok (.iconst 0, 1) := by decide +kernel
theorem bStV_d87 : decode bStV.bs 87 = .ok (.iload 4, 2) := by decide +kernel
theorem bStV_d89 : decode bStV.bs 89 = .ok (.iconst 1, 1) := by decide +kernel
theorem bStV_d90 : decode bStV.bs 90 = .ok (.ishl, 1) := by decide +kernel
theorem bStV_d91 : decode bStV.bs 91 = .ok (.invokestatic 54, 3) := by decide +kernel
theorem bStV_d94 : decode bStV.bs 94 = .ok (.putfield 9, 3) := by decide +kernel
theorem bStV_d97 : decode bStV.bs 97 = .ok (.return_, 1) := by decide +kernel
theorem bStV_pd : parseMethodDescriptor "(Ljava/lang/AbstractStringBuilder;Ljava/lang/Void;)V" = some ⟨[(.object "java/lang/AbstractStringBuilder"), (.object "java/lang/Void")], none⟩ := by decide +kernel
theorem bStV_pn : plainFor bStV.y = true := plainFor_of_name (show plainName "java/lang/String" = true from by first | (simp [plainName, overriddenIn]; done) | decide +kernel)
theorem cStV (l : Launch) (Z : State) (a0 : Array Value) (hw : ∀ d ∈ tables_1, d.before a0 Z = true) (n0 : Nat) (hEW : EW Z a0 consts_1) (a : Addr) (q b : Addr) (cs : List Int32) (N : Nat) (h0 : Heap) (σ : Addr → Prop) (E : Exa Z h0 a Road.SN) (Gc : Fld Z h0 a Road.SN "coder" "B" (.int 0)) (Gv : Fld Z h0 a Road.SN "value" "[B" .null) (S : Road.Sb Z h0 q b cs N) (hn : cs.length < N) (hcap : cs.length ≤ 68) (naq : a ≠ q) (sa : σ a) (cp : Int32) (Hc : Sta Z Z.heap Road.SN "COMPACT_STRINGS" "Z" (.int cp)) (hcp : ¬ cp = 0) :
    Road.Con l Z consts_1 n0 false bStV [] σ #[(.ref a), (.ref q), .null] h0 (fun v h2 s2 => v = none ∧ Keep h0 h2 [a] ∧ ∃ d, Road.Str Z h2 a d cs ∧ h0.size ≤ d) := by
  have hN := S.small
  obtain ⟨F, Fc, Fv, Fn, ⟨r, Ab, hr⟩, hlt⟩ := S
  refine Road.Con.of bStV_pn hEW #[.val (.ref a), .val (.ref q), .val .null, .unset, .unset] (fun m => Road.ent (Road.laid1 rfl (Road.laid1 rfl (Road.laid1 rfl Road.laid0))) (k := 2) rfl rfl) ?_
  intro D hD
  refine Road.aloadN 0 bStV_d0 rfl ?_
  refine Road.initObj 1 bStV_d1 (wI hw 16 rfl) (wI hw 17 rfl) (wI hw 18 rfl) 0 rfl rfl (by decide) (by decide) ?_
  refine Road.aloadN 4 bStV_d4 rfl ?_
  refine Road.callV (B' := bGtV) (a := q) 5 (argsL := []) (rest := []) "java/lang/StringBuilder" 0 bStV_d5 (wI hw 157 rfl) (wI hw 158 rfl) (fun vm hz => Road.notFace_sib (args := #[]) (mv (s := D.s.setVm vm) hz (wI hw 95 rfl)) rfl) (wI hw 160 rfl) (wI hw 159 rfl) (wI hw 55 rfl) (wI hw 161 rfl) (by decide) F (cGtV l Z a0 hw n0 hEW q b h0 σ Fv) (lenOf bGtV_pd rfl) rfl rfl rfl (by decide) (by decide) (ce' := 0) (sl' := 0) rfl rfl (by decide) (by decide) ?_
  rintro _ h_1 σ_2 m_3 ⟨rfl, rfl⟩
  refine Road.Go.weaken (σ' := σ) m_3 (Nat.le_refl _) (Nat.le_refl _) ?_
  refine Road.astoreN 8 #[.val (.ref a), .val (.ref q), .val .null, .val (.ref b), .unset] bStV_d8 rfl ?_
  refine Road.aloadN 9 bStV_d9 rfl ?_
  refine Road.callV (B' := bSbN) (a := q) 10 (argsL := []) (rest := []) "java/lang/StringBuilder" 0 bStV_d10 (wI hw 162 rfl) (wI hw 163 rfl) (fun vm hz => Road.notFace_sib (args := #[]) (mv (s := D.s.setVm vm) hz (wI hw 95 rfl)) rfl) (wI hw 165 rfl) (wI hw 166 rfl) (wI hw 47 rfl) (wI hw 167 rfl) (by decide) F (cSbN l Z a0 hw n0 hEW q (Nat.toInt32 cs.length) h0 σ F Fn) (lenOf bSbN_pd rfl) rfl rfl rfl (by decide) (by decide) (ce' := 0) (sl' := 0) rfl rfl (by decide) (by decide) ?_
  rintro _ h_5 σ_6 m_7 ⟨rfl, rfl⟩
  refine Road.Go.weaken (σ' := σ) m_7 (Nat.le_refl _) (Nat.le_refl _) ?_
  refine Road.istore 13 #[.val (.ref a), .val (.ref q), .val .null, .val (.ref b), .val (.int (Nat.toInt32 cs.length))] bStV_d13 rfl ?_
  refine Road.aloadN 15 bStV_d15 rfl ?_
  refine Road.callV (B' := bAbL) (a := q) 16 (argsL := []) (rest := []) "java/lang/StringBuilder" 0 bStV_d16 (wI hw 170 rfl) (wI hw 132 rfl) (fun vm hz => Road.notFace_sib (args := #[]) (mv (s := D.s.setVm vm) hz (wI hw 95 rfl)) rfl) (wI hw 134 rfl) (wI hw 133 rfl) (wI hw 55 rfl) (wI hw 135 rfl) (by decide) F (cAbL l Z a0 hw n0 hEW q h0 σ Fc cp Hc hcp) (lenOf bAbL_pd rfl) rfl rfl rfl (by decide) (by decide) (ce' := 0) (sl' := 0) rfl rfl (by decide) (by decide) ?_
  rintro _ h_9 σ_10 m_11 ⟨rfl, rfl⟩
  refine Road.Go.weaken (σ' := σ) m_11 (Nat.le_refl _) (Nat.le_refl _) ?_
  refine Road.if_eq 19 41 bStV_d19 rfl (fun q => absurd q (by decide)) (fun hc19 => ?_)
  refine Road.aloadN 22 bStV_d22 rfl ?_
  refine Road.iconst 23 (0 : Int32) bStV_d23 rfl ?_
  have nab : a ≠ b := by obtain ⟨c, Ar, -⟩ := Ab; exact ne_arr E (wI hw 6 rfl) Ar
  refine Road.putfield 24 bStV_d24 (wI hw 31 rfl) Via.refl Gc E (Or.inr ⟨(wI hw 32 rfl), rfl, rfl⟩) (wI hw 6 rfl) (ty := .byte) (by decide) rfl rfl sa ?_
  intro h_15 W_13 K_14
  replace Gc := Gc.same W_13
  replace Gv := Gv.other W_13 (Or.inr (slot_ne (Or.inr (wI hw 34 rfl)) (Or.inr (wI hw 32 rfl)) (by decide) (t := (.array .byte)) (by decide) (t' := .byte) (by decide)))
  replace E := E.keep K_14
  replace Ab := Ab.keep K_14 (ninS (Ne.symm nab) nin0)
  refine Road.aloadN 27 bStV_d27 rfl ?_
  refine Road.aloadN 28 bStV_d28 rfl ?_
  refine Road.iconst 29 (0 : Int32) bStV_d29 rfl ?_
  refine Road.iload 30 bStV_d30 rfl ?_
  refine Road.callS (B' := bCrR) 32 (argsL := [(.ref b), (.int (0 : Int32)), (.int (Nat.toInt32 cs.length))]) (rest := [(.ref a)]) 1 bStV_d32 (wI hw 171 rfl) (wI hw 172 rfl) (wI hw 173 rfl) (wI hw 174 rfl) (by decide) (cCrR l Z a0 hw n0 hEW b _ cs.length h_15 σ Ab (by rw [List.length_append, List.length_map]; omega) hcap) (lenOf bCrR_pd rfl) rfl rfl rfl (by decide) (by decide) (ce' := 1) (sl' := 68) rfl rfl (by decide) (by decide) ?_
  rintro _ h_16 σ_17 m_18 ⟨d, rfl, gd, K_19, sd, Ad⟩
  have ne_a_d : a ≠ d := Nat.ne_of_lt (Nat.lt_of_lt_of_le E.lt gd)
  have ne_b_d : b ≠ d := Nat.ne_of_lt (Nat.lt_of_lt_of_le Ab.lt gd)
  replace E := E.keep K_19
  replace Gc := Gc.keep K_19 nin0
  replace Gv := Gv.keep K_19 nin0
  replace Ab := Ab.keep K_19 nin0
  replace sa := m_18 _ sa
  refine Road.putfield 35 bStV_d35 (wI hw 33 rfl) Via.refl Gv E (Or.inr ⟨(wI hw 34 rfl), rfl, rfl⟩) (wI hw 6 rfl) (ty := (.array .byte)) (by decide) rfl rfl sa ?_
  intro h_23 W_21 K_22
  replace Gv := Gv.same W_21
  replace Gc := Gc.other W_21 (Or.inr (slot_ne (Or.inr (wI hw 32 rfl)) (Or.inr (wI hw 34 rfl)) (by decide) (t := .byte) (by decide) (t' := (.array .byte)) (by decide)))
  replace E := E.keep K_22
  replace Ab := Ab.keep K_22 (ninS (Ne.symm nab) nin0)
  replace Ad := Ad.keep K_22 (ninS (Ne.symm ne_a_d) nin0)
  refine Road.goto 38 97 bStV_d38 rfl ?_
  rw [List.take_append_of_le_length (by rw [List.length_map]; omega), List.take_of_length_le (by rw [List.length_map]; omega)] at Ad
  exact Road.ret 97 bStV_d97 rfl (by decide) (by decide) (fun σ' m => ⟨rfl, (K_14.trans (Road.keep_more (ws := [a]) K_19) (by simp)).trans K_22 (by simp), d, ⟨E, Gc, Gv, Ad, hlt⟩, Nat.le_trans K_14.1 gd⟩)
def bStS : Road.Bdy := (⟨"java/lang/String", "<init>", "(Ljava/lang/StringBuilder;)V"⟩, jdk_42_method_53_code, 2, none, { frames := 4, cells := 1, slots := 68, locals := 69 })
theorem bStS_d0 : decode bStS.bs 0 = .ok (.aload_n 0, 1) := by decide +kernel
theorem bStS_d1 : decode bStS.bs 1 = .ok (.aload_n 1, 1) := by decide +kernel
theorem bStS_d2 : decode bStS.bs 2 = .ok (.aconst_null, 1) := by decide +kernel
theorem bStS_d3 : decode bStS.bs 3 = .ok (.invokespecial 489, 3) := by decide +kernel
theorem bStS_d6 : decode bStS.bs 6 = .ok (.return_, 1) := by decide +kernel
theorem bStS_pd : parseMethodDescriptor "(Ljava/lang/StringBuilder;)V" = some ⟨[(.object "java/lang/StringBuilder")], none⟩ := by decide +kernel
theorem bStS_pn : plainFor bStS.y = true := plainFor_of_name (show plainName "java/lang/String" = true from by first | (simp [plainName, overriddenIn]; done) | decide +kernel)
theorem cStS (l : Launch) (Z : State) (a0 : Array Value) (hw : ∀ d ∈ tables_1, d.before a0 Z = true) (n0 : Nat) (hEW : EW Z a0 consts_1) (a : Addr) (q b : Addr) (cs : List Int32) (N : Nat) (h0 : Heap) (σ : Addr → Prop) (E : Exa Z h0 a Road.SN) (Gc : Fld Z h0 a Road.SN "coder" "B" (.int 0)) (Gv : Fld Z h0 a Road.SN "value" "[B" .null) (S : Road.Sb Z h0 q b cs N) (hn : cs.length < N) (hcap : cs.length ≤ 68) (naq : a ≠ q) (sa : σ a) (cp : Int32) (Hc : Sta Z Z.heap Road.SN "COMPACT_STRINGS" "Z" (.int cp)) (hcp : ¬ cp = 0) :
    Road.Con l Z consts_1 n0 false bStS [] σ #[(.ref a), (.ref q)] h0 (fun v h2 s2 => v = none ∧ Keep h0 h2 [a] ∧ ∃ d, Road.Str Z h2 a d cs ∧ h0.size ≤ d) := by
  refine Road.Con.of bStS_pn hEW #[.val (.ref a), .val (.ref q)] (fun m => Road.ent (Road.laid1 rfl (Road.laid1 rfl Road.laid0)) (k := 0) rfl rfl) ?_
  intro D hD
  refine Road.aloadN 0 bStS_d0 rfl ?_
  refine Road.aloadN 1 bStS_d1 rfl ?_
  refine Road.aconstNull 2 bStS_d2 ?_
  refine Road.callI (B' := bStV) (a := a) 3 (argsL := [(.ref q), .null]) (rest := []) 0 bStS_d3 (wI hw 154 rfl) (wI hw 155 rfl) (wI hw 7 rfl) (wI hw 156 rfl) rfl rfl (by decide) (cStV l Z a0 hw n0 hEW a q b cs N h0 σ E Gc Gv S hn hcap naq sa cp Hc hcp) (lenOf bStV_pd rfl) rfl rfl rfl (by decide) (by decide) (ce' := 1) (sl' := 68) rfl rfl (by decide) (by decide) ?_
  rintro _ h_1 σ_2 m_3 ⟨rfl, K_4, d, T, gd⟩
  exact Road.ret 6 bStS_d6 rfl (by decide) (by decide) (fun σ' m => ⟨rfl, K_4, d, T, gd⟩)
def bToS : Road.Bdy := (⟨"java/lang/StringBuilder", "toString", "()Ljava/lang/String;"⟩, jdk_67_method_42_code, 1, (some (.object "java/lang/String")), { frames := 5, cells := 2, slots := 72, locals := 83 })
theorem bToS_d0 : decode bToS.bs 0 = .ok (.new 18, 3) := by decide +kernel
theorem bToS_d3 : decode bToS.bs 3 = .ok (.dup, 1) := by decide +kernel
theorem bToS_d4 : decode bToS.bs 4 = .ok (.aload_n 0, 1) := by decide +kernel
theorem bToS_d5 : decode bToS.bs 5 = .ok (.invokespecial 137, 3) := by decide +kernel
theorem bToS_d8 : decode bToS.bs 8 = .ok (.areturn, 1) := by decide +kernel
theorem bToS_pd : parseMethodDescriptor "()Ljava/lang/String;" = some ⟨[], (some (.object "java/lang/String"))⟩ := by decide +kernel
theorem bToS_pn : plainFor bToS.y = true := plainFor_of_name (show plainName "java/lang/StringBuilder" = true from by first | (simp [plainName, overriddenIn]; done) | decide +kernel)
theorem cToS (l : Launch) (Z : State) (a0 : Array Value) (hw : ∀ d ∈ tables_1, d.before a0 Z = true) (n0 : Nat) (hEW : EW Z a0 consts_1) (q b : Addr) (cs : List Int32) (N : Nat) (h0 : Heap) (σ : Addr → Prop) (S : Road.Sb Z h0 q b cs N) (hn : cs.length < N) (hcap : cs.length ≤ 68) (cp : Int32) (Hc : Sta Z Z.heap Road.SN "COMPACT_STRINGS" "Z" (.int cp)) (hcp : ¬ cp = 0) :
    Road.Con l Z consts_1 n0 false bToS [] σ #[(.ref q)] h0 (fun v h2 s2 => ∃ a d, v = some (.ref a) ∧ h0.size ≤ a ∧ h0.size ≤ d ∧ Keep h0 h2 [] ∧ Road.Str Z h2 a d cs) := by
  refine Road.Con.of bToS_pn hEW #[.val (.ref q)] (fun m => Road.ent (Road.laid1 rfl Road.laid0) (k := 0) rfl rfl) ?_
  intro D hD
  refine Road.new 0 "java/lang/String" bToS_d0 (wI hw 150 rfl) (wI hw 6 rfl) (wI hw 7 rfl) (ce' := 1) (sl' := 4) rfl rfl (by decide) (by decide) ?_
  intro a h_1 σ_2 g_3 K_4 lt_5 m_6 s_7 E D_8 M_9
  have ne_q_a : q ≠ a := Nat.ne_of_lt (Nat.lt_of_lt_of_le S.lt (Nat.le_of_eq g_3.symm))
  have ne_b_a : b ≠ a := Nat.ne_of_lt (Nat.lt_of_lt_of_le S.ltb (Nat.le_of_eq g_3.symm))
  replace S := S.keep K_4 nin0 nin0
  have Gc := D_8 (Or.inr (wI hw 32 rfl)) (ty := .byte) (by decide)
  have Gv := D_8 (Or.inr (wI hw 34 rfl)) (ty := (.array .byte)) (by decide)
  refine Road.dup 3 bToS_d3 ?_
  refine Road.aloadN 4 bToS_d4 rfl ?_
  refine Road.callI (B' := bStS) (a := a) 5 (argsL := [(.ref q)]) (rest := [(.ref a)]) 1 bToS_d5 (wI hw 151 rfl) (wI hw 152 rfl) (wI hw 7 rfl) (wI hw 153 rfl) rfl rfl (by decide) (cStS l Z a0 hw n0 hEW a q b cs N h_1 σ_2 E Gc Gv S hn hcap (Ne.symm ne_q_a) s_7 cp Hc hcp) (lenOf bStS_pd rfl) rfl rfl rfl (by decide) (by decide) (ce' := 2) (sl' := 72) rfl rfl (by decide) (by decide) ?_
  rintro _ h_10 σ_11 m_12 ⟨rfl, K_13, d, T, gd⟩
  replace s_7 := m_12 _ s_7
  exact Road.aret 8 bToS_d8 (t := (.object "java/lang/String")) rfl rfl rfl (by decide) (by decide) (fun σ' m => ⟨a, d, rfl, Nat.le_of_eq g_3.symm, Nat.le_trans K_4.1 gd, K_4.trans K_13 (by intro x hx; cases List.mem_singleton.mp hx; exact Or.inr (Nat.le_of_eq g_3.symm)), T⟩)
def bCrE : Road.Bdy := (⟨"java/util/Arrays", "copyOfRange", "([BII)[B"⟩, jdk_65_method_132_code, 3, (some (.array .byte)), { frames := 1, cells := 1, slots := 68, locals := 14 })
theorem bCrE_pd : parseMethodDescriptor "([BII)[B" = some ⟨[(.array .byte), .int, .int], (some (.array .byte))⟩ := by decide +kernel
theorem bCrE_pn : plainFor bCrE.y = true := plainFor_of_name (show plainName "java/util/Arrays" = true from by first | (simp [plainName, overriddenIn]; done) | decide +kernel)
theorem cCrE (l : Launch) (Z : State) (a0 : Array Value) (hw : ∀ d ∈ tables_1, d.before a0 Z = true) (n0 : Nat) (hEW : EW Z a0 consts_1) (b : Addr) (vs : List Value) (n : Nat) (h0 : Heap) (σ : Addr → Prop) (A : Road.Ary Z h0 b .byte vs) (EB : Exa Z h0 b "[B") (hn : vs.length = n) (hcap : n ≤ 68) :
    Road.Con l Z consts_1 n0 false bCrE [] σ #[(.ref b), (.int (0 : Int32)), (.int (Nat.toInt32 n))] h0 (fun v h2 s2 => ∃ d, v = some (.ref d) ∧ h0.size ≤ d ∧ Keep h0 h2 [] ∧ s2 d ∧ Road.Ary Z h2 d .byte vs) := by
  refine Road.Con.of bCrE_pn hEW #[.val (.ref b), .val (.int (0 : Int32)), .val (.int (Nat.toInt32 n))] (fun m => Road.ent (Road.laid1 rfl (Road.laid1 rfl (Road.laid1 rfl Road.laid0))) (k := 0) rfl rfl) ?_
  intro D hD
  subst hn
  refine Road.iloadN 0 bCrR_d0 rfl ?_
  refine Road.if_ne 1 10 bCrR_d1 rfl (fun q => absurd q (by decide)) (fun hc1 => ?_)
  refine Road.iloadN 4 bCrR_d4 rfl ?_
  refine Road.aloadN 5 bCrR_d5 rfl ?_
  refine Road.alen 6 (Nat.toInt32 vs.length) bCrR_d6 A (n := vs.length) rfl rfl ?_
  refine Road.icmp_eq 7 17 bCrR_d7 rfl (fun hc7 => ?_) (fun q => absurd q (by simp))
  refine Road.aloadN 17 bCrR_d17 rfl ?_
  refine Road.cloneArr 18 0 68 bCrR_d18 (wI hw 218 rfl) (wI hw 219 rfl) (wI hw 223 rfl) (wI hw 221 rfl) (wI hw 222 rfl) (wI hw 224 rfl) A EB rfl rfl (by decide) (by decide) hcap (ce' := 1) (sl' := 68) rfl rfl (by decide) (by decide) ?_
  intro d h2 σ2 gd Kd ltd md sd Ad Ed
  refine Road.castYes 21 bCrR_d21 (wI hw 225 rfl) (Ins.self Ed) ?_
  exact Road.aret 24 bCrR_d24 (t := (.array .byte)) rfl rfl rfl (by decide) (by decide) (fun σ' m => ⟨d, rfl, Nat.le_of_eq gd.symm, Kd, m _ sd, Ad⟩)
def bEtV : Road.Bdy := (⟨"java/lang/String", "<init>", "(Ljava/lang/AbstractStringBuilder;Ljava/lang/Void;)V"⟩, jdk_42_method_150_code, 5, none, { frames := 2, cells := 1, slots := 68, locals := 29 })
theorem bEtV_pd : parseMethodDescriptor "(Ljava/lang/AbstractStringBuilder;Ljava/lang/Void;)V" = some ⟨[(.object "java/lang/AbstractStringBuilder"), (.object "java/lang/Void")], none⟩ := by decide +kernel
theorem bEtV_pn : plainFor bEtV.y = true := plainFor_of_name (show plainName "java/lang/String" = true from by first | (simp [plainName, overriddenIn]; done) | decide +kernel)
theorem cEtV (l : Launch) (Z : State) (a0 : Array Value) (hw : ∀ d ∈ tables_1, d.before a0 Z = true) (n0 : Nat) (hEW : EW Z a0 consts_1) (a : Addr) (q b : Addr) (cs : List Int32) (N : Nat) (h0 : Heap) (σ : Addr → Prop) (E : Exa Z h0 a Road.SN) (Gc : Fld Z h0 a Road.SN "coder" "B" (.int 0)) (Gv : Fld Z h0 a Road.SN "value" "[B" .null) (S : Road.Sb Z h0 q b cs N) (EB : Exa Z h0 b "[B") (hn : cs.length = N) (hcap : cs.length ≤ 68) (naq : a ≠ q) (sa : σ a) (cp : Int32) (Hc : Sta Z Z.heap Road.SN "COMPACT_STRINGS" "Z" (.int cp)) (hcp : ¬ cp = 0) :
    Road.Con l Z consts_1 n0 false bEtV [] σ #[(.ref a), (.ref q), .null] h0 (fun v h2 s2 => v = none ∧ Keep h0 h2 [a] ∧ ∃ d, Road.Str Z h2 a d cs ∧ h0.size ≤ d) := by
  have hN := S.small
  obtain ⟨F, Fc, Fv, Fn, ⟨r, Ab, hr⟩, hlt⟩ := S
  have hr0 : r = [] := List.eq_nil_of_length_eq_zero (by omega)
  subst hr0
  rw [List.append_nil] at Ab
  refine Road.Con.of bEtV_pn hEW #[.val (.ref a), .val (.ref q), .val .null, .unset, .unset] (fun m => Road.ent (Road.laid1 rfl (Road.laid1 rfl (Road.laid1 rfl Road.laid0))) (k := 2) rfl rfl) ?_
  intro D hD
  refine Road.aloadN 0 bStV_d0 rfl ?_
  refine Road.initObj 1 bStV_d1 (wI hw 16 rfl) (wI hw 17 rfl) (wI hw 18 rfl) 0 rfl rfl (by decide) (by decide) ?_
  refine Road.aloadN 4 bStV_d4 rfl ?_
  refine Road.callV (B' := bGtV) (a := q) 5 (argsL := []) (rest := []) "java/lang/StringBuilder" 0 bStV_d5 (wI hw 157 rfl) (wI hw 158 rfl) (fun vm hz => Road.notFace_sib (args := #[]) (mv (s := D.s.setVm vm) hz (wI hw 95 rfl)) rfl) (wI hw 160 rfl) (wI hw 159 rfl) (wI hw 55 rfl) (wI hw 161 rfl) (by decide) F (cGtV l Z a0 hw n0 hEW q b h0 σ Fv) (lenOf bGtV_pd rfl) rfl rfl rfl (by decide) (by decide) (ce' := 0) (sl' := 0) rfl rfl (by decide) (by decide) ?_
  rintro _ h_1 σ_2 m_3 ⟨rfl, rfl⟩
  refine Road.Go.weaken (σ' := σ) m_3 (Nat.le_refl _) (Nat.le_refl _) ?_
  refine Road.astoreN 8 #[.val (.ref a), .val (.ref q), .val .null, .val (.ref b), .unset] bStV_d8 rfl ?_
  refine Road.aloadN 9 bStV_d9 rfl ?_
  refine Road.callV (B' := bSbN) (a := q) 10 (argsL := []) (rest := []) "java/lang/StringBuilder" 0 bStV_d10 (wI hw 162 rfl) (wI hw 163 rfl) (fun vm hz => Road.notFace_sib (args := #[]) (mv (s := D.s.setVm vm) hz (wI hw 95 rfl)) rfl) (wI hw 165 rfl) (wI hw 166 rfl) (wI hw 47 rfl) (wI hw 167 rfl) (by decide) F (cSbN l Z a0 hw n0 hEW q (Nat.toInt32 cs.length) h0 σ F Fn) (lenOf bSbN_pd rfl) rfl rfl rfl (by decide) (by decide) (ce' := 0) (sl' := 0) rfl rfl (by decide) (by decide) ?_
  rintro _ h_5 σ_6 m_7 ⟨rfl, rfl⟩
  refine Road.Go.weaken (σ' := σ) m_7 (Nat.le_refl _) (Nat.le_refl _) ?_
  refine Road.istore 13 #[.val (.ref a), .val (.ref q), .val .null, .val (.ref b), .val (.int (Nat.toInt32 cs.length))] bStV_d13 rfl ?_
  refine Road.aloadN 15 bStV_d15 rfl ?_
  refine Road.callV (B' := bAbL) (a := q) 16 (argsL := []) (rest := []) "java/lang/StringBuilder" 0 bStV_d16 (wI hw 170 rfl) (wI hw 132 rfl) (fun vm hz => Road.notFace_sib (args := #[]) (mv (s := D.s.setVm vm) hz (wI hw 95 rfl)) rfl) (wI hw 134 rfl) (wI hw 133 rfl) (wI hw 55 rfl) (wI hw 135 rfl) (by decide) F (cAbL l Z a0 hw n0 hEW q h0 σ Fc cp Hc hcp) (lenOf bAbL_pd rfl) rfl rfl rfl (by decide) (by decide) (ce' := 0) (sl' := 0) rfl rfl (by decide) (by decide) ?_
  rintro _ h_9 σ_10 m_11 ⟨rfl, rfl⟩
  refine Road.Go.weaken (σ' := σ) m_11 (Nat.le_refl _) (Nat.le_refl _) ?_
  refine Road.if_eq 19 41 bStV_d19 rfl (fun q => absurd q (by decide)) (fun hc19 => ?_)
  refine Road.aloadN 22 bStV_d22 rfl ?_
  refine Road.iconst 23 (0 : Int32) bStV_d23 rfl ?_
  have nab : a ≠ b := by obtain ⟨c, Ar, -⟩ := Ab; exact ne_arr E (wI hw 6 rfl) Ar
  refine Road.putfield 24 bStV_d24 (wI hw 31 rfl) Via.refl Gc E (Or.inr ⟨(wI hw 32 rfl), rfl, rfl⟩) (wI hw 6 rfl) (ty := .byte) (by decide) rfl rfl sa ?_
  intro h_15 W_13 K_14
  replace Gc := Gc.same W_13
  replace Gv := Gv.other W_13 (Or.inr (slot_ne (Or.inr (wI hw 34 rfl)) (Or.inr (wI hw 32 rfl)) (by decide) (t := (.array .byte)) (by decide) (t' := .byte) (by decide)))
  replace E := E.keep K_14
  replace EB := EB.keep K_14
  replace Ab := Ab.keep K_14 (ninS (Ne.symm nab) nin0)
  refine Road.aloadN 27 bStV_d27 rfl ?_
  refine Road.aloadN 28 bStV_d28 rfl ?_
  refine Road.iconst 29 (0 : Int32) bStV_d29 rfl ?_
  refine Road.iload 30 bStV_d30 rfl ?_
  refine Road.callS (B' := bCrE) 32 (argsL := [(.ref b), (.int (0 : Int32)), (.int (Nat.toInt32 cs.length))]) (rest := [(.ref a)]) 1 bStV_d32 (wI hw 171 rfl) (wI hw 172 rfl) (wI hw 173 rfl) (wI hw 174 rfl) (by decide) (cCrE l Z a0 hw n0 hEW b _ cs.length h_15 σ Ab EB (List.length_map _) hcap) (lenOf bCrE_pd rfl) rfl rfl rfl (by decide) (by decide) (ce' := 1) (sl' := 68) rfl rfl (by decide) (by decide) ?_
  rintro _ h_16 σ_17 m_18 ⟨d, rfl, gd, K_19, sd, Ad⟩
  have ne_a_d : a ≠ d := Nat.ne_of_lt (Nat.lt_of_lt_of_le E.lt gd)
  have ne_b_d : b ≠ d := Nat.ne_of_lt (Nat.lt_of_lt_of_le EB.lt gd)
  replace E := E.keep K_19
  replace Gc := Gc.keep K_19 nin0
  replace Gv := Gv.keep K_19 nin0
  replace EB := EB.keep K_19
  replace Ab := Ab.keep K_19 nin0
  replace sa := m_18 _ sa
  refine Road.putfield 35 bStV_d35 (wI hw 33 rfl) Via.refl Gv E (Or.inr ⟨(wI hw 34 rfl), rfl, rfl⟩) (wI hw 6 rfl) (ty := (.array .byte)) (by decide) rfl rfl sa ?_
  intro h_23 W_21 K_22
  replace Gv := Gv.same W_21
  replace Gc := Gc.other W_21 (Or.inr (slot_ne (Or.inr (wI hw 32 rfl)) (Or.inr (wI hw 34 rfl)) (by decide) (t := .byte) (by decide) (t' := (.array .byte)) (by decide)))
  replace E := E.keep K_22
  replace EB := EB.keep K_22
  replace Ab := Ab.keep K_22 (ninS (Ne.symm nab) nin0)
  replace Ad := Ad.keep K_22 (ninS (Ne.symm ne_a_d) nin0)
  refine Road.goto 38 97 bStV_d38 rfl ?_
  exact Road.ret 97 bStV_d97 rfl (by decide) (by decide) (fun σ' m => ⟨rfl, (K_14.trans (Road.keep_more (ws := [a]) K_19) (by simp)).trans K_22 (by simp), d, ⟨E, Gc, Gv, Ad, hlt⟩, Nat.le_trans K_14.1 gd⟩)
def bEtS : Road.Bdy := (⟨"java/lang/String", "<init>", "(Ljava/lang/StringBuilder;)V"⟩, jdk_42_method_53_code, 2, none, { frames := 3, cells := 1, slots := 68, locals := 45 })
theorem bEtS_pd : parseMethodDescriptor "(Ljava/lang/StringBuilder;)V" = some ⟨[(.object "java/lang/StringBuilder")], none⟩ := by decide +kernel
theorem bEtS_pn : plainFor bEtS.y = true := plainFor_of_name (show plainName "java/lang/String" = true from by first | (simp [plainName, overriddenIn]; done) | decide +kernel)
theorem cEtS (l : Launch) (Z : State) (a0 : Array Value) (hw : ∀ d ∈ tables_1, d.before a0 Z = true) (n0 : Nat) (hEW : EW Z a0 consts_1) (a : Addr) (q b : Addr) (cs : List Int32) (N : Nat) (h0 : Heap) (σ : Addr → Prop) (E : Exa Z h0 a Road.SN) (Gc : Fld Z h0 a Road.SN "coder" "B" (.int 0)) (Gv : Fld Z h0 a Road.SN "value" "[B" .null) (S : Road.Sb Z h0 q b cs N) (EB : Exa Z h0 b "[B") (hn : cs.length = N) (hcap : cs.length ≤ 68) (naq : a ≠ q) (sa : σ a) (cp : Int32) (Hc : Sta Z Z.heap Road.SN "COMPACT_STRINGS" "Z" (.int cp)) (hcp : ¬ cp = 0) :
    Road.Con l Z consts_1 n0 false bEtS [] σ #[(.ref a), (.ref q)] h0 (fun v h2 s2 => v = none ∧ Keep h0 h2 [a] ∧ ∃ d, Road.Str Z h2 a d cs ∧ h0.size ≤ d) := by
  refine Road.Con.of bEtS_pn hEW #[.val (.ref a), .val (.ref q)] (fun m => Road.ent (Road.laid1 rfl (Road.laid1 rfl Road.laid0)) (k := 0) rfl rfl) ?_
  intro D hD
  refine Road.aloadN 0 bStS_d0 rfl ?_
  refine Road.aloadN 1 bStS_d1 rfl ?_
  refine Road.aconstNull 2 bStS_d2 ?_
  refine Road.callI (B' := bEtV) (a := a) 3 (argsL := [(.ref q), .null]) (rest := []) 0 bStS_d3 (wI hw 154 rfl) (wI hw 155 rfl) (wI hw 7 rfl) (wI hw 156 rfl) rfl rfl (by decide) (cEtV l Z a0 hw n0 hEW a q b cs N h0 σ E Gc Gv S EB hn hcap naq sa cp Hc hcp) (lenOf bEtV_pd rfl) rfl rfl rfl (by decide) (by decide) (ce' := 1) (sl' := 68) rfl rfl (by decide) (by decide) ?_
  rintro _ h_1 σ_2 m_3 ⟨rfl, K_4, d, T, gd⟩
  exact Road.ret 6 bStS_d6 rfl (by decide) (by decide) (fun σ' m => ⟨rfl, K_4, d, T, gd⟩)
def bEoS : Road.Bdy := (⟨"java/lang/StringBuilder", "toString", "()Ljava/lang/String;"⟩, jdk_67_method_42_code, 1, (some (.object "java/lang/String")), { frames := 4, cells := 2, slots := 72, locals := 59 })
theorem bEoS_pd : parseMethodDescriptor "()Ljava/lang/String;" = some ⟨[], (some (.object "java/lang/String"))⟩ := by decide +kernel
theorem bEoS_pn : plainFor bEoS.y = true := plainFor_of_name (show plainName "java/lang/StringBuilder" = true from by first | (simp [plainName, overriddenIn]; done) | decide +kernel)
theorem cEoS (l : Launch) (Z : State) (a0 : Array Value) (hw : ∀ d ∈ tables_1, d.before a0 Z = true) (n0 : Nat) (hEW : EW Z a0 consts_1) (q b : Addr) (cs : List Int32) (N : Nat) (h0 : Heap) (σ : Addr → Prop) (S : Road.Sb Z h0 q b cs N) (EB : Exa Z h0 b "[B") (hn : cs.length = N) (hcap : cs.length ≤ 68) (cp : Int32) (Hc : Sta Z Z.heap Road.SN "COMPACT_STRINGS" "Z" (.int cp)) (hcp : ¬ cp = 0) :
    Road.Con l Z consts_1 n0 false bEoS [] σ #[(.ref q)] h0 (fun v h2 s2 => ∃ a d, v = some (.ref a) ∧ h0.size ≤ a ∧ h0.size ≤ d ∧ Keep h0 h2 [] ∧ Road.Str Z h2 a d cs) := by
  refine Road.Con.of bEoS_pn hEW #[.val (.ref q)] (fun m => Road.ent (Road.laid1 rfl Road.laid0) (k := 0) rfl rfl) ?_
  intro D hD
  refine Road.new 0 "java/lang/String" bToS_d0 (wI hw 150 rfl) (wI hw 6 rfl) (wI hw 7 rfl) (ce' := 1) (sl' := 4) rfl rfl (by decide) (by decide) ?_
  intro a h_1 σ_2 g_3 K_4 lt_5 m_6 s_7 E D_8 M_9
  have ne_q_a : q ≠ a := Nat.ne_of_lt (Nat.lt_of_lt_of_le S.lt (Nat.le_of_eq g_3.symm))
  have ne_b_a : b ≠ a := Nat.ne_of_lt (Nat.lt_of_lt_of_le S.ltb (Nat.le_of_eq g_3.symm))
  replace S := S.keep K_4 nin0 nin0
  replace EB := EB.keep K_4
  have Gc := D_8 (Or.inr (wI hw 32 rfl)) (ty := .byte) (by decide)
  have Gv := D_8 (Or.inr (wI hw 34 rfl)) (ty := (.array .byte)) (by decide)
  refine Road.dup 3 bToS_d3 ?_
  refine Road.aloadN 4 bToS_d4 rfl ?_
  refine Road.callI (B' := bEtS) (a := a) 5 (argsL := [(.ref q)]) (rest := [(.ref a)]) 1 bToS_d5 (wI hw 151 rfl) (wI hw 152 rfl) (wI hw 7 rfl) (wI hw 153 rfl) rfl rfl (by decide) (cEtS l Z a0 hw n0 hEW a q b cs N h_1 σ_2 E Gc Gv S EB hn hcap (Ne.symm ne_q_a) s_7 cp Hc hcp) (lenOf bEtS_pd rfl) rfl rfl rfl (by decide) (by decide) (ce' := 2) (sl' := 72) rfl rfl (by decide) (by decide) ?_
  rintro _ h_10 σ_11 m_12 ⟨rfl, K_13, d, T, gd⟩
  replace s_7 := m_12 _ s_7
  exact Road.aret 8 bToS_d8 (t := (.object "java/lang/String")) rfl rfl rfl (by decide) (by decide) (fun σ' m => ⟨a, d, rfl, Nat.le_of_eq g_3.symm, Nat.le_trans K_4.1 gd, K_4.trans K_13 (by intro x hx; cases List.mem_singleton.mp hx; exact Or.inr (Nat.le_of_eq g_3.symm)), T⟩)
def bTv00 : Road.Bdy := (⟨"java/lang/String", "<init>", "(Ljava/lang/AbstractStringBuilder;Ljava/lang/Void;)V"⟩, jdk_42_method_150_code, 5, none, { frames := 3, cells := 1, slots := 68, locals := 53 })
theorem bTv00_pd : parseMethodDescriptor "(Ljava/lang/AbstractStringBuilder;Ljava/lang/Void;)V" = some ⟨[(.object "java/lang/AbstractStringBuilder"), (.object "java/lang/Void")], none⟩ := by decide +kernel
theorem bTv00_pn : plainFor bTv00.y = true := plainFor_of_name (show plainName "java/lang/String" = true from by first | (simp [plainName, overriddenIn]; done) | decide +kernel)
theorem cTv00 (l : Launch) (Z : State) (a0 : Array Value) (hw : ∀ d ∈ tables_1, d.before a0 Z = true) (n0 : Nat) (hEW : EW Z a0 consts_1) (a : Addr) (q b : Addr) (cs : List Int32) (N : Nat) (h0 : Heap) (σ : Addr → Prop) (E : Exa Z h0 a Road.SN) (Gc : Fld Z h0 a Road.SN "coder" "B" (.int 0)) (Gv : Fld Z h0 a Road.SN "value" "[B" .null) (S : Road.Sb0 Z h0 q b cs N) (hn : cs.length < N) (hcap : cs.length ≤ 34) (naq : a ≠ q) (sa : σ a) (cp : Int32) (Hc : Sta Z Z.heap Road.SN "COMPACT_STRINGS" "Z" (.int cp)) (hcp : ¬ cp = 0) :
    Road.Con l Z consts_1 n0 false bTv00 [] σ #[(.ref a), (.ref q), .null] h0 (fun v h2 s2 => v = none ∧ Keep h0 h2 [a] ∧ ∃ d, Road.Str Z h2 a d cs ∧ h0.size ≤ d) := by
  have hN := S.small
  obtain ⟨F, Fc, Fv, Fn, ⟨r, Ab, hr⟩, hlt, Fy, EB⟩ := S
  refine Road.Con.of bTv00_pn hEW #[.val (.ref a), .val (.ref q), .val .null, .unset, .unset] (fun m => Road.ent (Road.laid1 rfl (Road.laid1 rfl (Road.laid1 rfl Road.laid0))) (k := 2) rfl rfl) ?_
  intro D hD
  refine Road.aloadN 0 bStV_d0 rfl ?_
  refine Road.initObj 1 bStV_d1 (wI hw 16 rfl) (wI hw 17 rfl) (wI hw 18 rfl) 0 rfl rfl (by decide) (by decide) ?_
  refine Road.aloadN 4 bStV_d4 rfl ?_
  refine Road.callV (B' := bGtV) (a := q) 5 (argsL := []) (rest := []) "java/lang/StringBuilder" 0 bStV_d5 (wI hw 157 rfl) (wI hw 158 rfl) (fun vm hz => Road.notFace_sib (args := #[]) (mv (s := D.s.setVm vm) hz (wI hw 95 rfl)) rfl) (wI hw 160 rfl) (wI hw 159 rfl) (wI hw 55 rfl) (wI hw 161 rfl) (by decide) F (cGtV l Z a0 hw n0 hEW q b h0 σ Fv) (lenOf bGtV_pd rfl) rfl rfl rfl (by decide) (by decide) (ce' := 0) (sl' := 0) rfl rfl (by decide) (by decide) ?_
  rintro _ h_1 σ_2 m_3 ⟨rfl, rfl⟩
  refine Road.Go.weaken (σ' := σ) m_3 (Nat.le_refl _) (Nat.le_refl _) ?_
  refine Road.astoreN 8 #[.val (.ref a), .val (.ref q), .val .null, .val (.ref b), .unset] bStV_d8 rfl ?_
  refine Road.aloadN 9 bStV_d9 rfl ?_
  refine Road.callV (B' := bSbN) (a := q) 10 (argsL := []) (rest := []) "java/lang/StringBuilder" 0 bStV_d10 (wI hw 162 rfl) (wI hw 163 rfl) (fun vm hz => Road.notFace_sib (args := #[]) (mv (s := D.s.setVm vm) hz (wI hw 95 rfl)) rfl) (wI hw 165 rfl) (wI hw 166 rfl) (wI hw 47 rfl) (wI hw 167 rfl) (by decide) F (cSbN l Z a0 hw n0 hEW q (Nat.toInt32 cs.length) h0 σ F Fn) (lenOf bSbN_pd rfl) rfl rfl rfl (by decide) (by decide) (ce' := 0) (sl' := 0) rfl rfl (by decide) (by decide) ?_
  rintro _ h_5 σ_6 m_7 ⟨rfl, rfl⟩
  refine Road.Go.weaken (σ' := σ) m_7 (Nat.le_refl _) (Nat.le_refl _) ?_
  refine Road.istore 13 #[.val (.ref a), .val (.ref q), .val .null, .val (.ref b), .val (.int (Nat.toInt32 cs.length))] bStV_d13 rfl ?_
  refine Road.aloadN 15 bStV_d15 rfl ?_
  refine Road.callV (B' := bAL0) (a := q) 16 (argsL := []) (rest := []) "java/lang/StringBuilder" 0 bStV_d16 (wI hw 170 rfl) (wI hw 132 rfl) (fun vm hz => Road.notFace_sib (args := #[]) (mv (s := D.s.setVm vm) hz (wI hw 95 rfl)) rfl) (wI hw 134 rfl) (wI hw 133 rfl) (wI hw 55 rfl) (wI hw 135 rfl) (by decide) F (cAL0 l Z a0 hw n0 hEW q h0 σ Fc cp Hc hcp) (lenOf bAL0_pd rfl) rfl rfl rfl (by decide) (by decide) (ce' := 0) (sl' := 0) rfl rfl (by decide) (by decide) ?_
  rintro _ h_9 σ_10 m_11 ⟨rfl, rfl⟩
  refine Road.Go.weaken (σ' := σ) m_11 (Nat.le_refl _) (Nat.le_refl _) ?_
  have nab : a ≠ b := by obtain ⟨c, Ar, -⟩ := Ab; exact ne_arr E (wI hw 6 rfl) Ar
  refine Road.if_eq 19 41 bStV_d19 rfl (fun q => absurd q (by decide)) (fun hc19 => ?_)
  refine Road.aloadN 22 bStV_d22 rfl ?_
  refine Road.iconst 23 (0 : Int32) bStV_d23 rfl ?_
  refine Road.putfield 24 bStV_d24 (wI hw 31 rfl) Via.refl Gc E (Or.inr ⟨(wI hw 32 rfl), rfl, rfl⟩) (wI hw 6 rfl) (ty := .byte) (by decide) rfl rfl sa ?_
  intro h_15 W_13 K_14
  replace Gc := Gc.same W_13
  replace Gv := Gv.other W_13 (Or.inr (slot_ne (Or.inr (wI hw 34 rfl)) (Or.inr (wI hw 32 rfl)) (by decide) (t := (.array .byte)) (by decide) (t' := .byte) (by decide)))
  replace E := E.keep K_14
  replace EB := EB.keep K_14
  replace Ab := Ab.keep K_14 (ninS (Ne.symm nab) nin0)
  refine Road.aloadN 27 bStV_d27 rfl ?_
  refine Road.aloadN 28 bStV_d28 rfl ?_
  refine Road.iconst 29 (0 : Int32) bStV_d29 rfl ?_
  refine Road.iload 30 bStV_d30 rfl ?_
  refine Road.callS (B' := bCrR) 32 (argsL := [(.ref b), (.int (0 : Int32)), (.int (Nat.toInt32 cs.length))]) (rest := [(.ref a)]) 1 bStV_d32 (wI hw 171 rfl) (wI hw 172 rfl) (wI hw 173 rfl) (wI hw 174 rfl) (by decide) (cCrR l Z a0 hw n0 hEW b _ cs.length h_15 σ Ab (by simp only [List.length_append, List.length_map, Road.utf_len, List.length_replicate, List.length_drop, List.length_cons, List.length_nil]; omega) (by omega)) (lenOf bCrR_pd rfl) rfl rfl rfl (by decide) (by decide) (ce' := 1) (sl' := 68) rfl rfl (by decide) (by decide) ?_
  rintro _ h_16 σ_17 m_18 ⟨d, rfl, gd, K_19, sd, Ad⟩
  have ne_a_d : a ≠ d := Nat.ne_of_lt (Nat.lt_of_lt_of_le E.lt gd)
  have ne_b_d : b ≠ d := Nat.ne_of_lt (Nat.lt_of_lt_of_le EB.lt gd)
  replace E := E.keep K_19
  replace Gc := Gc.keep K_19 nin0
  replace Gv := Gv.keep K_19 nin0
  replace EB := EB.keep K_19
  replace Ab := Ab.keep K_19 nin0
  replace sa := m_18 _ sa
  refine Road.putfield 35 bStV_d35 (wI hw 33 rfl) Via.refl Gv E (Or.inr ⟨(wI hw 34 rfl), rfl, rfl⟩) (wI hw 6 rfl) (ty := (.array .byte)) (by decide) rfl rfl sa ?_
  intro h_23 W_21 K_22
  replace Gv := Gv.same W_21
  replace Gc := Gc.other W_21 (Or.inr (slot_ne (Or.inr (wI hw 32 rfl)) (Or.inr (wI hw 34 rfl)) (by decide) (t := .byte) (by decide) (t' := (.array .byte)) (by decide)))
  replace E := E.keep K_22
  replace EB := EB.keep K_22
  replace Ab := Ab.keep K_22 (ninS (Ne.symm nab) nin0)
  replace Ad := Ad.keep K_22 (ninS (Ne.symm ne_a_d) nin0)
  refine Road.goto 38 97 bStV_d38 rfl ?_
  rw [List.take_append_of_le_length (by simp only [List.length_append, List.length_map, Road.utf_len, List.length_replicate, List.length_drop, List.length_cons, List.length_nil]; omega), List.take_of_length_le (by simp only [List.length_append, List.length_map, Road.utf_len, List.length_replicate, List.length_drop, List.length_cons, List.length_nil]; omega)] at Ad
  exact Road.ret 97 bStV_d97 rfl (by decide) (by decide) (fun σ' m => ⟨rfl, (K_14.trans (Road.keep_more (ws := [a]) K_19) (by simp)).trans K_22 (by simp), d, ⟨E, Gc, Gv, Ad, hlt⟩, Nat.le_trans K_14.1 gd⟩)
def bTs00 : Road.Bdy := (⟨"java/lang/String", "<init>", "(Ljava/lang/StringBuilder;)V"⟩, jdk_42_method_53_code, 2, none, { frames := 4, cells := 1, slots := 68, locals := 69 })
theorem bTs00_pd : parseMethodDescriptor "(Ljava/lang/StringBuilder;)V" = some ⟨[(.object "java/lang/StringBuilder")], none⟩ := by decide +kernel
theorem bTs00_pn : plainFor bTs00.y = true := plainFor_of_name (show plainName "java/lang/String" = true from by first | (simp [plainName, overriddenIn]; done) | decide +kernel)
theorem cTs00 (l : Launch) (Z : State) (a0 : Array Value) (hw : ∀ d ∈ tables_1, d.before a0 Z = true) (n0 : Nat) (hEW : EW Z a0 consts_1) (a : Addr) (q b : Addr) (cs : List Int32) (N : Nat) (h0 : Heap) (σ : Addr → Prop) (E : Exa Z h0 a Road.SN) (Gc : Fld Z h0 a Road.SN "coder" "B" (.int 0)) (Gv : Fld Z h0 a Road.SN "value" "[B" .null) (S : Road.Sb0 Z h0 q b cs N) (hn : cs.length < N) (hcap : cs.length ≤ 34) (naq : a ≠ q) (sa : σ a) (cp : Int32) (Hc : Sta Z Z.heap Road.SN "COMPACT_STRINGS" "Z" (.int cp)) (hcp : ¬ cp = 0) :
    Road.Con l Z consts_1 n0 false bTs00 [] σ #[(.ref a), (.ref q)] h0 (fun v h2 s2 => v = none ∧ Keep h0 h2 [a] ∧ ∃ d, Road.Str Z h2 a d cs ∧ h0.size ≤ d) := by
  refine Road.Con.of bTs00_pn hEW #[.val (.ref a), .val (.ref q)] (fun m => Road.ent (Road.laid1 rfl (Road.laid1 rfl Road.laid0)) (k := 0) rfl rfl) ?_
  intro D hD
  refine Road.aloadN 0 bStS_d0 rfl ?_
  refine Road.aloadN 1 bStS_d1 rfl ?_
  refine Road.aconstNull 2 bStS_d2 ?_
  refine Road.callI (B' := bTv00) (a := a) 3 (argsL := [(.ref q), .null]) (rest := []) 0 bStS_d3 (wI hw 154 rfl) (wI hw 155 rfl) (wI hw 7 rfl) (wI hw 156 rfl) rfl rfl (by decide) (cTv00 l Z a0 hw n0 hEW a q b cs N h0 σ E Gc Gv S hn hcap naq sa cp Hc hcp) (lenOf bTv00_pd rfl) rfl rfl rfl (by decide) (by decide) (ce' := 1) (sl' := 68) rfl rfl (by decide) (by decide) ?_
  rintro _ h_1 σ_2 m_3 ⟨rfl, K_4, d, T, gd⟩
  exact Road.ret 6 bStS_d6 rfl (by decide) (by decide) (fun σ' m => ⟨rfl, K_4, d, T, gd⟩)
def bTo00 : Road.Bdy := (⟨"java/lang/StringBuilder", "toString", "()Ljava/lang/String;"⟩, jdk_67_method_42_code, 1, (some (.object "java/lang/String")), { frames := 5, cells := 2, slots := 72, locals := 83 })
theorem bTo00_pd : parseMethodDescriptor "()Ljava/lang/String;" = some ⟨[], (some (.object "java/lang/String"))⟩ := by decide +kernel
theorem bTo00_pn : plainFor bTo00.y = true := plainFor_of_name (show plainName "java/lang/StringBuilder" = true from by first | (simp [plainName, overriddenIn]; done) | decide +kernel)
theorem cTo00 (l : Launch) (Z : State) (a0 : Array Value) (hw : ∀ d ∈ tables_1, d.before a0 Z = true) (n0 : Nat) (hEW : EW Z a0 consts_1) (q b : Addr) (cs : List Int32) (N : Nat) (h0 : Heap) (σ : Addr → Prop) (S : Road.Sb0 Z h0 q b cs N) (hn : cs.length < N) (hcap : cs.length ≤ 34) (cp : Int32) (Hc : Sta Z Z.heap Road.SN "COMPACT_STRINGS" "Z" (.int cp)) (hcp : ¬ cp = 0) :
    Road.Con l Z consts_1 n0 false bTo00 [] σ #[(.ref q)] h0 (fun v h2 s2 => ∃ a d, v = some (.ref a) ∧ h0.size ≤ a ∧ h0.size ≤ d ∧ Keep h0 h2 [] ∧ Road.Str Z h2 a d cs) := by
  refine Road.Con.of bTo00_pn hEW #[.val (.ref q)] (fun m => Road.ent (Road.laid1 rfl Road.laid0) (k := 0) rfl rfl) ?_
  intro D hD
  refine Road.new 0 "java/lang/String" bToS_d0 (wI hw 150 rfl) (wI hw 6 rfl) (wI hw 7 rfl) (ce' := 1) (sl' := 4) rfl rfl (by decide) (by decide) ?_
  intro a h_1 σ_2 g_3 K_4 lt_5 m_6 s_7 E D_8 M_9
  have ne_q_a : q ≠ a := Nat.ne_of_lt (Nat.lt_of_lt_of_le S.lt (Nat.le_of_eq g_3.symm))
  have ne_b_a : b ≠ a := Nat.ne_of_lt (Nat.lt_of_lt_of_le S.ltb (Nat.le_of_eq g_3.symm))
  replace S := S.keep K_4 nin0 nin0
  have Gc := D_8 (Or.inr (wI hw 32 rfl)) (ty := .byte) (by decide)
  have Gv := D_8 (Or.inr (wI hw 34 rfl)) (ty := (.array .byte)) (by decide)
  refine Road.dup 3 bToS_d3 ?_
  refine Road.aloadN 4 bToS_d4 rfl ?_
  refine Road.callI (B' := bTs00) (a := a) 5 (argsL := [(.ref q)]) (rest := [(.ref a)]) 1 bToS_d5 (wI hw 151 rfl) (wI hw 152 rfl) (wI hw 7 rfl) (wI hw 153 rfl) rfl rfl (by decide) (cTs00 l Z a0 hw n0 hEW a q b cs N h_1 σ_2 E Gc Gv S hn hcap (Ne.symm ne_q_a) s_7 cp Hc hcp) (lenOf bTs00_pd rfl) rfl rfl rfl (by decide) (by decide) (ce' := 2) (sl' := 72) rfl rfl (by decide) (by decide) ?_
  rintro _ h_10 σ_11 m_12 ⟨rfl, K_13, d, T, gd⟩
  replace s_7 := m_12 _ s_7
  exact Road.aret 8 bToS_d8 (t := (.object "java/lang/String")) rfl rfl rfl (by decide) (by decide) (fun σ' m => ⟨a, d, rfl, Nat.le_of_eq g_3.symm, Nat.le_trans K_4.1 gd, K_4.trans K_13 (by intro x hx; cases List.mem_singleton.mp hx; exact Or.inr (Nat.le_of_eq g_3.symm)), T⟩)
def bTv01 : Road.Bdy := (⟨"java/lang/String", "<init>", "(Ljava/lang/AbstractStringBuilder;Ljava/lang/Void;)V"⟩, jdk_42_method_150_code, 5, none, { frames := 2, cells := 1, slots := 68, locals := 29 })
theorem bTv01_pd : parseMethodDescriptor "(Ljava/lang/AbstractStringBuilder;Ljava/lang/Void;)V" = some ⟨[(.object "java/lang/AbstractStringBuilder"), (.object "java/lang/Void")], none⟩ := by decide +kernel
theorem bTv01_pn : plainFor bTv01.y = true := plainFor_of_name (show plainName "java/lang/String" = true from by first | (simp [plainName, overriddenIn]; done) | decide +kernel)
theorem cTv01 (l : Launch) (Z : State) (a0 : Array Value) (hw : ∀ d ∈ tables_1, d.before a0 Z = true) (n0 : Nat) (hEW : EW Z a0 consts_1) (a : Addr) (q b : Addr) (cs : List Int32) (N : Nat) (h0 : Heap) (σ : Addr → Prop) (E : Exa Z h0 a Road.SN) (Gc : Fld Z h0 a Road.SN "coder" "B" (.int 0)) (Gv : Fld Z h0 a Road.SN "value" "[B" .null) (S : Road.Sb0 Z h0 q b cs N) (hn : cs.length = N) (hcap : cs.length ≤ 34) (naq : a ≠ q) (sa : σ a) (cp : Int32) (Hc : Sta Z Z.heap Road.SN "COMPACT_STRINGS" "Z" (.int cp)) (hcp : ¬ cp = 0) :
    Road.Con l Z consts_1 n0 false bTv01 [] σ #[(.ref a), (.ref q), .null] h0 (fun v h2 s2 => v = none ∧ Keep h0 h2 [a] ∧ ∃ d, Road.Str Z h2 a d cs ∧ h0.size ≤ d) := by
  have hN := S.small
  obtain ⟨F, Fc, Fv, Fn, ⟨r, Ab, hr⟩, hlt, Fy, EB⟩ := S
  have hr0 : r = [] := List.eq_nil_of_length_eq_zero (by omega)
  subst hr0
  rw [List.append_nil] at Ab
  refine Road.Con.of bTv01_pn hEW #[.val (.ref a), .val (.ref q), .val .null, .unset, .unset] (fun m => Road.ent (Road.laid1 rfl (Road.laid1 rfl (Road.laid1 rfl Road.laid0))) (k := 2) rfl rfl) ?_
  intro D hD
  refine Road.aloadN 0 bStV_d0 rfl ?_
  refine Road.initObj 1 bStV_d1 (wI hw 16 rfl) (wI hw 17 rfl) (wI hw 18 rfl) 0 rfl rfl (by decide) (by decide) ?_
  refine Road.aloadN 4 bStV_d4 rfl ?_
  refine Road.callV (B' := bGtV) (a := q) 5 (argsL := []) (rest := []) "java/lang/StringBuilder" 0 bStV_d5 (wI hw 157 rfl) (wI hw 158 rfl) (fun vm hz => Road.notFace_sib (args := #[]) (mv (s := D.s.setVm vm) hz (wI hw 95 rfl)) rfl) (wI hw 160 rfl) (wI hw 159 rfl) (wI hw 55 rfl) (wI hw 161 rfl) (by decide) F (cGtV l Z a0 hw n0 hEW q b h0 σ Fv) (lenOf bGtV_pd rfl) rfl rfl rfl (by decide) (by decide) (ce' := 0) (sl' := 0) rfl rfl (by decide) (by decide) ?_
  rintro _ h_1 σ_2 m_3 ⟨rfl, rfl⟩
  refine Road.Go.weaken (σ' := σ) m_3 (Nat.le_refl _) (Nat.le_refl _) ?_
  refine Road.astoreN 8 #[.val (.ref a), .val (.ref q), .val .null, .val (.ref b), .unset] bStV_d8 rfl ?_
  refine Road.aloadN 9 bStV_d9 rfl ?_
  refine Road.callV (B' := bSbN) (a := q) 10 (argsL := []) (rest := []) "java/lang/StringBuilder" 0 bStV_d10 (wI hw 162 rfl) (wI hw 163 rfl) (fun vm hz => Road.notFace_sib (args := #[]) (mv (s := D.s.setVm vm) hz (wI hw 95 rfl)) rfl) (wI hw 165 rfl) (wI hw 166 rfl) (wI hw 47 rfl) (wI hw 167 rfl) (by decide) F (cSbN l Z a0 hw n0 hEW q (Nat.toInt32 cs.length) h0 σ F Fn) (lenOf bSbN_pd rfl) rfl rfl rfl (by decide) (by decide) (ce' := 0) (sl' := 0) rfl rfl (by decide) (by decide) ?_
  rintro _ h_5 σ_6 m_7 ⟨rfl, rfl⟩
  refine Road.Go.weaken (σ' := σ) m_7 (Nat.le_refl _) (Nat.le_refl _) ?_
  refine Road.istore 13 #[.val (.ref a), .val (.ref q), .val .null, .val (.ref b), .val (.int (Nat.toInt32 cs.length))] bStV_d13 rfl ?_
  refine Road.aloadN 15 bStV_d15 rfl ?_
  refine Road.callV (B' := bAL0) (a := q) 16 (argsL := []) (rest := []) "java/lang/StringBuilder" 0 bStV_d16 (wI hw 170 rfl) (wI hw 132 rfl) (fun vm hz => Road.notFace_sib (args := #[]) (mv (s := D.s.setVm vm) hz (wI hw 95 rfl)) rfl) (wI hw 134 rfl) (wI hw 133 rfl) (wI hw 55 rfl) (wI hw 135 rfl) (by decide) F (cAL0 l Z a0 hw n0 hEW q h0 σ Fc cp Hc hcp) (lenOf bAL0_pd rfl) rfl rfl rfl (by decide) (by decide) (ce' := 0) (sl' := 0) rfl rfl (by decide) (by decide) ?_
  rintro _ h_9 σ_10 m_11 ⟨rfl, rfl⟩
  refine Road.Go.weaken (σ' := σ) m_11 (Nat.le_refl _) (Nat.le_refl _) ?_
  have nab : a ≠ b := by obtain ⟨c, Ar, -⟩ := Ab; exact ne_arr E (wI hw 6 rfl) Ar
  refine Road.if_eq 19 41 bStV_d19 rfl (fun q => absurd q (by decide)) (fun hc19 => ?_)
  refine Road.aloadN 22 bStV_d22 rfl ?_
  refine Road.iconst 23 (0 : Int32) bStV_d23 rfl ?_
  refine Road.putfield 24 bStV_d24 (wI hw 31 rfl) Via.refl Gc E (Or.inr ⟨(wI hw 32 rfl), rfl, rfl⟩) (wI hw 6 rfl) (ty := .byte) (by decide) rfl rfl sa ?_
  intro h_15 W_13 K_14
  replace Gc := Gc.same W_13
  replace Gv := Gv.other W_13 (Or.inr (slot_ne (Or.inr (wI hw 34 rfl)) (Or.inr (wI hw 32 rfl)) (by decide) (t := (.array .byte)) (by decide) (t' := .byte) (by decide)))
  replace E := E.keep K_14
  replace EB := EB.keep K_14
  replace Ab := Ab.keep K_14 (ninS (Ne.symm nab) nin0)
  refine Road.aloadN 27 bStV_d27 rfl ?_
  refine Road.aloadN 28 bStV_d28 rfl ?_
  refine Road.iconst 29 (0 : Int32) bStV_d29 rfl ?_
  refine Road.iload 30 bStV_d30 rfl ?_
  refine Road.callS (B' := bCrE) 32 (argsL := [(.ref b), (.int (0 : Int32)), (.int (Nat.toInt32 cs.length))]) (rest := [(.ref a)]) 1 bStV_d32 (wI hw 171 rfl) (wI hw 172 rfl) (wI hw 173 rfl) (wI hw 174 rfl) (by decide) (cCrE l Z a0 hw n0 hEW b _ cs.length h_15 σ Ab EB (List.length_map _) (by omega)) (lenOf bCrE_pd rfl) rfl rfl rfl (by decide) (by decide) (ce' := 1) (sl' := 68) rfl rfl (by decide) (by decide) ?_
  rintro _ h_16 σ_17 m_18 ⟨d, rfl, gd, K_19, sd, Ad⟩
  have ne_a_d : a ≠ d := Nat.ne_of_lt (Nat.lt_of_lt_of_le E.lt gd)
  have ne_b_d : b ≠ d := Nat.ne_of_lt (Nat.lt_of_lt_of_le EB.lt gd)
  replace E := E.keep K_19
  replace Gc := Gc.keep K_19 nin0
  replace Gv := Gv.keep K_19 nin0
  replace EB := EB.keep K_19
  replace Ab := Ab.keep K_19 nin0
  replace sa := m_18 _ sa
  refine Road.putfield 35 bStV_d35 (wI hw 33 rfl) Via.refl Gv E (Or.inr ⟨(wI hw 34 rfl), rfl, rfl⟩) (wI hw 6 rfl) (ty := (.array .byte)) (by decide) rfl rfl sa ?_
  intro h_23 W_21 K_22
  replace Gv := Gv.same W_21
  replace Gc := Gc.other W_21 (Or.inr (slot_ne (Or.inr (wI hw 32 rfl)) (Or.inr (wI hw 34 rfl)) (by decide) (t := .byte) (by decide) (t' := (.array .byte)) (by decide)))
  replace E := E.keep K_22
  replace EB := EB.keep K_22
  replace Ab := Ab.keep K_22 (ninS (Ne.symm nab) nin0)
  replace Ad := Ad.keep K_22 (ninS (Ne.symm ne_a_d) nin0)
  refine Road.goto 38 97 bStV_d38 rfl ?_
  exact Road.ret 97 bStV_d97 rfl (by decide) (by decide) (fun σ' m => ⟨rfl, (K_14.trans (Road.keep_more (ws := [a]) K_19) (by simp)).trans K_22 (by simp), d, ⟨E, Gc, Gv, Ad, hlt⟩, Nat.le_trans K_14.1 gd⟩)
def bTs01 : Road.Bdy := (⟨"java/lang/String", "<init>", "(Ljava/lang/StringBuilder;)V"⟩, jdk_42_method_53_code, 2, none, { frames := 3, cells := 1, slots := 68, locals := 45 })
theorem bTs01_pd : parseMethodDescriptor "(Ljava/lang/StringBuilder;)V" = some ⟨[(.object "java/lang/StringBuilder")], none⟩ := by decide +kernel
theorem bTs01_pn : plainFor bTs01.y = true := plainFor_of_name (show plainName "java/lang/String" = true from by first | (simp [plainName, overriddenIn]; done) | decide +kernel)
theorem cTs01 (l : Launch) (Z : State) (a0 : Array Value) (hw : ∀ d ∈ tables_1, d.before a0 Z = true) (n0 : Nat) (hEW : EW Z a0 consts_1) (a : Addr) (q b : Addr) (cs : List Int32) (N : Nat) (h0 : Heap) (σ : Addr → Prop) (E : Exa Z h0 a Road.SN) (Gc : Fld Z h0 a Road.SN "coder" "B" (.int 0)) (Gv : Fld Z h0 a Road.SN "value" "[B" .null) (S : Road.Sb0 Z h0 q b cs N) (hn : cs.length = N) (hcap : cs.length ≤ 34) (naq : a ≠ q) (sa : σ a) (cp : Int32) (Hc : Sta Z Z.heap Road.SN "COMPACT_STRINGS" "Z" (.int cp)) (hcp : ¬ cp = 0) :
    Road.Con l Z consts_1 n0 false bTs01 [] σ #[(.ref a), (.ref q)] h0 (fun v h2 s2 => v = none ∧ Keep h0 h2 [a] ∧ ∃ d, Road.Str Z h2 a d cs ∧ h0.size ≤ d) := by
  refine Road.Con.of bTs01_pn hEW #[.val (.ref a), .val (.ref q)] (fun m => Road.ent (Road.laid1 rfl (Road.laid1 rfl Road.laid0)) (k := 0) rfl rfl) ?_
  intro D hD
  refine Road.aloadN 0 bStS_d0 rfl ?_
  refine Road.aloadN 1 bStS_d1 rfl ?_
  refine Road.aconstNull 2 bStS_d2 ?_
  refine Road.callI (B' := bTv01) (a := a) 3 (argsL := [(.ref q), .null]) (rest := []) 0 bStS_d3 (wI hw 154 rfl) (wI hw 155 rfl) (wI hw 7 rfl) (wI hw 156 rfl) rfl rfl (by decide) (cTv01 l Z a0 hw n0 hEW a q b cs N h0 σ E Gc Gv S hn hcap naq sa cp Hc hcp) (lenOf bTv01_pd rfl) rfl rfl rfl (by decide) (by decide) (ce' := 1) (sl' := 68) rfl rfl (by decide) (by decide) ?_
  rintro _ h_1 σ_2 m_3 ⟨rfl, K_4, d, T, gd⟩
  exact Road.ret 6 bStS_d6 rfl (by decide) (by decide) (fun σ' m => ⟨rfl, K_4, d, T, gd⟩)
def bTo01 : Road.Bdy := (⟨"java/lang/StringBuilder", "toString", "()Ljava/lang/String;"⟩, jdk_67_method_42_code, 1, (some (.object "java/lang/String")), { frames := 4, cells := 2, slots := 72, locals := 59 })
theorem bTo01_pd : parseMethodDescriptor "()Ljava/lang/String;" = some ⟨[], (some (.object "java/lang/String"))⟩ := by decide +kernel
theorem bTo01_pn : plainFor bTo01.y = true := plainFor_of_name (show plainName "java/lang/StringBuilder" = true from by first | (simp [plainName, overriddenIn]; done) | decide +kernel)
theorem cTo01 (l : Launch) (Z : State) (a0 : Array Value) (hw : ∀ d ∈ tables_1, d.before a0 Z = true) (n0 : Nat) (hEW : EW Z a0 consts_1) (q b : Addr) (cs : List Int32) (N : Nat) (h0 : Heap) (σ : Addr → Prop) (S : Road.Sb0 Z h0 q b cs N) (hn : cs.length = N) (hcap : cs.length ≤ 34) (cp : Int32) (Hc : Sta Z Z.heap Road.SN "COMPACT_STRINGS" "Z" (.int cp)) (hcp : ¬ cp = 0) :
    Road.Con l Z consts_1 n0 false bTo01 [] σ #[(.ref q)] h0 (fun v h2 s2 => ∃ a d, v = some (.ref a) ∧ h0.size ≤ a ∧ h0.size ≤ d ∧ Keep h0 h2 [] ∧ Road.Str Z h2 a d cs) := by
  refine Road.Con.of bTo01_pn hEW #[.val (.ref q)] (fun m => Road.ent (Road.laid1 rfl Road.laid0) (k := 0) rfl rfl) ?_
  intro D hD
  refine Road.new 0 "java/lang/String" bToS_d0 (wI hw 150 rfl) (wI hw 6 rfl) (wI hw 7 rfl) (ce' := 1) (sl' := 4) rfl rfl (by decide) (by decide) ?_
  intro a h_1 σ_2 g_3 K_4 lt_5 m_6 s_7 E D_8 M_9
  have ne_q_a : q ≠ a := Nat.ne_of_lt (Nat.lt_of_lt_of_le S.lt (Nat.le_of_eq g_3.symm))
  have ne_b_a : b ≠ a := Nat.ne_of_lt (Nat.lt_of_lt_of_le S.ltb (Nat.le_of_eq g_3.symm))
  replace S := S.keep K_4 nin0 nin0
  have Gc := D_8 (Or.inr (wI hw 32 rfl)) (ty := .byte) (by decide)
  have Gv := D_8 (Or.inr (wI hw 34 rfl)) (ty := (.array .byte)) (by decide)
  refine Road.dup 3 bToS_d3 ?_
  refine Road.aloadN 4 bToS_d4 rfl ?_
  refine Road.callI (B' := bTs01) (a := a) 5 (argsL := [(.ref q)]) (rest := [(.ref a)]) 1 bToS_d5 (wI hw 151 rfl) (wI hw 152 rfl) (wI hw 7 rfl) (wI hw 153 rfl) rfl rfl (by decide) (cTs01 l Z a0 hw n0 hEW a q b cs N h_1 σ_2 E Gc Gv S hn hcap (Ne.symm ne_q_a) s_7 cp Hc hcp) (lenOf bTs01_pd rfl) rfl rfl rfl (by decide) (by decide) (ce' := 2) (sl' := 72) rfl rfl (by decide) (by decide) ?_
  rintro _ h_10 σ_11 m_12 ⟨rfl, K_13, d, T, gd⟩
  replace s_7 := m_12 _ s_7
  exact Road.aret 8 bToS_d8 (t := (.object "java/lang/String")) rfl rfl rfl (by decide) (by decide) (fun σ' m => ⟨a, d, rfl, Nat.le_of_eq g_3.symm, Nat.le_trans K_4.1 gd, K_4.trans K_13 (by intro x hx; cases List.mem_singleton.mp hx; exact Or.inr (Nat.le_of_eq g_3.symm)), T⟩)
def bTv10 : Road.Bdy := (⟨"java/lang/String", "<init>", "(Ljava/lang/AbstractStringBuilder;Ljava/lang/Void;)V"⟩, jdk_42_method_150_code, 5, none, { frames := 3, cells := 1, slots := 68, locals := 53 })
theorem bTv10_pd : parseMethodDescriptor "(Ljava/lang/AbstractStringBuilder;Ljava/lang/Void;)V" = some ⟨[(.object "java/lang/AbstractStringBuilder"), (.object "java/lang/Void")], none⟩ := by decide +kernel
theorem bTv10_pn : plainFor bTv10.y = true := plainFor_of_name (show plainName "java/lang/String" = true from by first | (simp [plainName, overriddenIn]; done) | decide +kernel)
theorem cTv10 (l : Launch) (Z : State) (a0 : Array Value) (hw : ∀ d ∈ tables_1, d.before a0 Z = true) (n0 : Nat) (hEW : EW Z a0 consts_1) (a : Addr) (q b : Addr) (cs : List Int32) (N : Nat) (h0 : Heap) (σ : Addr → Prop) (E : Exa Z h0 a Road.SN) (Gc : Fld Z h0 a Road.SN "coder" "B" (.int 0)) (Gv : Fld Z h0 a Road.SN "value" "[B" .null) (S : Road.Sb1 Z h0 q b cs N) (hn : cs.length < N) (hcap : cs.length ≤ 34) (hpos : 0 < cs.length) (naq : a ≠ q) (sa : σ a) (cp : Int32) (Hc : Sta Z Z.heap Road.SN "COMPACT_STRINGS" "Z" (.int cp)) (hcp : ¬ cp = 0) :
    Road.Con l Z consts_1 n0 false bTv10 [] σ #[(.ref a), (.ref q), .null] h0 (fun v h2 s2 => v = none ∧ Keep h0 h2 [a] ∧ ∃ d, Road.Str16 Z h2 a d cs ∧ h0.size ≤ d) := by
  have hN := S.small
  obtain ⟨F, Fc, Fv, Fn, ⟨r, Ab, hr⟩, hlt, Fy, EB⟩ := S
  refine Road.Con.of bTv10_pn hEW #[.val (.ref a), .val (.ref q), .val .null, .unset, .unset] (fun m => Road.ent (Road.laid1 rfl (Road.laid1 rfl (Road.laid1 rfl Road.laid0))) (k := 2) rfl rfl) ?_
  intro D hD
  refine Road.aloadN 0 bStV_d0 rfl ?_
  refine Road.initObj 1 bStV_d1 (wI hw 16 rfl) (wI hw 17 rfl) (wI hw 18 rfl) 0 rfl rfl (by decide) (by decide) ?_
  refine Road.aloadN 4 bStV_d4 rfl ?_
  refine Road.callV (B' := bGtV) (a := q) 5 (argsL := []) (rest := []) "java/lang/StringBuilder" 0 bStV_d5 (wI hw 157 rfl) (wI hw 158 rfl) (fun vm hz => Road.notFace_sib (args := #[]) (mv (s := D.s.setVm vm) hz (wI hw 95 rfl)) rfl) (wI hw 160 rfl) (wI hw 159 rfl) (wI hw 55 rfl) (wI hw 161 rfl) (by decide) F (cGtV l Z a0 hw n0 hEW q b h0 σ Fv) (lenOf bGtV_pd rfl) rfl rfl rfl (by decide) (by decide) (ce' := 0) (sl' := 0) rfl rfl (by decide) (by decide) ?_
  rintro _ h_1 σ_2 m_3 ⟨rfl, rfl⟩
  refine Road.Go.weaken (σ' := σ) m_3 (Nat.le_refl _) (Nat.le_refl _) ?_
  refine Road.astoreN 8 #[.val (.ref a), .val (.ref q), .val .null, .val (.ref b), .unset] bStV_d8 rfl ?_
  refine Road.aloadN 9 bStV_d9 rfl ?_
  refine Road.callV (B' := bSbN) (a := q) 10 (argsL := []) (rest := []) "java/lang/StringBuilder" 0 bStV_d10 (wI hw 162 rfl) (wI hw 163 rfl) (fun vm hz => Road.notFace_sib (args := #[]) (mv (s := D.s.setVm vm) hz (wI hw 95 rfl)) rfl) (wI hw 165 rfl) (wI hw 166 rfl) (wI hw 47 rfl) (wI hw 167 rfl) (by decide) F (cSbN l Z a0 hw n0 hEW q (Nat.toInt32 cs.length) h0 σ F Fn) (lenOf bSbN_pd rfl) rfl rfl rfl (by decide) (by decide) (ce' := 0) (sl' := 0) rfl rfl (by decide) (by decide) ?_
  rintro _ h_5 σ_6 m_7 ⟨rfl, rfl⟩
  refine Road.Go.weaken (σ' := σ) m_7 (Nat.le_refl _) (Nat.le_refl _) ?_
  refine Road.istore 13 #[.val (.ref a), .val (.ref q), .val .null, .val (.ref b), .val (.int (Nat.toInt32 cs.length))] bStV_d13 rfl ?_
  refine Road.aloadN 15 bStV_d15 rfl ?_
  refine Road.callV (B' := bAL1) (a := q) 16 (argsL := []) (rest := []) "java/lang/StringBuilder" 0 bStV_d16 (wI hw 170 rfl) (wI hw 132 rfl) (fun vm hz => Road.notFace_sib (args := #[]) (mv (s := D.s.setVm vm) hz (wI hw 95 rfl)) rfl) (wI hw 134 rfl) (wI hw 133 rfl) (wI hw 55 rfl) (wI hw 135 rfl) (by decide) F (cAL1 l Z a0 hw n0 hEW q h0 σ Fc cp Hc hcp) (lenOf bAL1_pd rfl) rfl rfl rfl (by decide) (by decide) (ce' := 0) (sl' := 0) rfl rfl (by decide) (by decide) ?_
  rintro _ h_9 σ_10 m_11 ⟨rfl, rfl⟩
  refine Road.Go.weaken (σ' := σ) m_11 (Nat.le_refl _) (Nat.le_refl _) ?_
  have nab : a ≠ b := by obtain ⟨c, Ar, -⟩ := Ab; exact ne_arr E (wI hw 6 rfl) Ar
  refine Road.if_eq 19 41 bStV_d19 rfl (fun hc19 => ?_) (fun q => absurd q (by decide))
  refine Road.getstatic 41 bStV_d41 (wI hw 19 rfl) Via.refl Hc ?_
  refine Road.if_eq 44 79 bStV_d44 rfl (fun q => absurd q hcp) (fun hc44 => ?_)
  refine Road.aloadN 47 bStV_d47 rfl ?_
  refine Road.getfield 48 bStV_d48 (wI hw 278 rfl) Via.refl Fy ?_
  refine Road.if_eq 51 79 bStV_d51 rfl (fun hc51 => ?_) (fun q => absurd q (by decide))
  refine Road.aloadN 79 bStV_d79 rfl ?_
  refine Road.iconst 80 (1 : Int32) bStV_d80 rfl ?_
  refine Road.putfield 81 bStV_d81 (wI hw 31 rfl) Via.refl Gc E (Or.inr ⟨(wI hw 32 rfl), rfl, rfl⟩) (wI hw 6 rfl) (ty := .byte) (by decide) rfl rfl sa ?_
  intro h_15 W_13 K_14
  replace Gc := Gc.same W_13
  replace Gv := Gv.other W_13 (Or.inr (slot_ne (Or.inr (wI hw 34 rfl)) (Or.inr (wI hw 32 rfl)) (by decide) (t := (.array .byte)) (by decide) (t' := .byte) (by decide)))
  replace E := E.keep K_14
  replace EB := EB.keep K_14
  replace Ab := Ab.keep K_14 (ninS (Ne.symm nab) nin0)
  refine Road.aloadN 84 bStV_d84 rfl ?_
  refine Road.aloadN 85 bStV_d85 rfl ?_
  refine Road.iconst 86 (0 : Int32) bStV_d86 rfl ?_
  refine Road.iload 87 bStV_d87 rfl ?_
  refine Road.iconst 89 (1 : Int32) bStV_d89 rfl ?_
  refine Road.ishl 90 bStV_d90 ?_
  refine Road.nameI ?_
  intro z_16 hz_16
  obtain rfl : z_16 = (Nat.toInt32 (2 * cs.length)) := by rw [hz_16]; exact Road.shl1 _
  refine Road.callS (B' := bCrR) 91 (argsL := [(.ref b), (.int (0 : Int32)), (.int (Nat.toInt32 (2 * cs.length)))]) (rest := [(.ref a)]) 1 bStV_d91 (wI hw 171 rfl) (wI hw 172 rfl) (wI hw 173 rfl) (wI hw 174 rfl) (by decide) (cCrR l Z a0 hw n0 hEW b _ (2 * cs.length) h_15 σ Ab (by simp only [List.length_append, List.length_map, Road.utf_len, List.length_replicate, List.length_drop, List.length_cons, List.length_nil]; omega) (by omega)) (lenOf bCrR_pd rfl) rfl rfl rfl (by decide) (by decide) (ce' := 1) (sl' := 68) rfl rfl (by decide) (by decide) ?_
  rintro _ h_17 σ_18 m_19 ⟨d, rfl, gd, K_20, sd, Ad⟩
  have ne_a_d : a ≠ d := Nat.ne_of_lt (Nat.lt_of_lt_of_le E.lt gd)
  have ne_b_d : b ≠ d := Nat.ne_of_lt (Nat.lt_of_lt_of_le EB.lt gd)
  replace E := E.keep K_20
  replace Gc := Gc.keep K_20 nin0
  replace Gv := Gv.keep K_20 nin0
  replace EB := EB.keep K_20
  replace Ab := Ab.keep K_20 nin0
  replace sa := m_19 _ sa
  refine Road.putfield 94 bStV_d94 (wI hw 33 rfl) Via.refl Gv E (Or.inr ⟨(wI hw 34 rfl), rfl, rfl⟩) (wI hw 6 rfl) (ty := (.array .byte)) (by decide) rfl rfl sa ?_
  intro h_24 W_22 K_23
  replace Gv := Gv.same W_22
  replace Gc := Gc.other W_22 (Or.inr (slot_ne (Or.inr (wI hw 32 rfl)) (Or.inr (wI hw 34 rfl)) (by decide) (t := .byte) (by decide) (t' := (.array .byte)) (by decide)))
  replace E := E.keep K_23
  replace EB := EB.keep K_23
  replace Ab := Ab.keep K_23 (ninS (Ne.symm nab) nin0)
  replace Ad := Ad.keep K_23 (ninS (Ne.symm ne_a_d) nin0)
  rw [List.take_append_of_le_length (by simp only [List.length_append, List.length_map, Road.utf_len, List.length_replicate, List.length_drop, List.length_cons, List.length_nil]; omega), List.take_of_length_le (by simp only [List.length_append, List.length_map, Road.utf_len, List.length_replicate, List.length_drop, List.length_cons, List.length_nil]; omega)] at Ad
  exact Road.ret 97 bStV_d97 rfl (by decide) (by decide) (fun σ' m => ⟨rfl, (K_14.trans (Road.keep_more (ws := [a]) K_20) (by simp)).trans K_23 (by simp), d, ⟨E, Gc, Gv, Ad, hlt, hpos⟩, Nat.le_trans K_14.1 gd⟩)
def bTs10 : Road.Bdy := (⟨"java/lang/String", "<init>", "(Ljava/lang/StringBuilder;)V"⟩, jdk_42_method_53_code, 2, none, { frames := 4, cells := 1, slots := 68, locals := 69 })
theorem bTs10_pd : parseMethodDescriptor "(Ljava/lang/StringBuilder;)V" = some ⟨[(.object "java/lang/StringBuilder")], none⟩ := by decide +kernel
theorem bTs10_pn : plainFor bTs10.y = true := plainFor_of_name (show plainName "java/lang/String" = true from by first | (simp [plainName, overriddenIn]; done) | decide +kernel)
theorem cTs10 (l : Launch) (Z : State) (a0 : Array Value) (hw : ∀ d ∈ tables_1, d.before a0 Z = true) (n0 : Nat) (hEW : EW Z a0 consts_1) (a : Addr) (q b : Addr) (cs : List Int32) (N : Nat) (h0 : Heap) (σ : Addr → Prop) (E : Exa Z h0 a Road.SN) (Gc : Fld Z h0 a Road.SN "coder" "B" (.int 0)) (Gv : Fld Z h0 a Road.SN "value" "[B" .null) (S : Road.Sb1 Z h0 q b cs N) (hn : cs.length < N) (hcap : cs.length ≤ 34) (hpos : 0 < cs.length) (naq : a ≠ q) (sa : σ a) (cp : Int32) (Hc : Sta Z Z.heap Road.SN "COMPACT_STRINGS" "Z" (.int cp)) (hcp : ¬ cp = 0) :
    Road.Con l Z consts_1 n0 false bTs10 [] σ #[(.ref a), (.ref q)] h0 (fun v h2 s2 => v = none ∧ Keep h0 h2 [a] ∧ ∃ d, Road.Str16 Z h2 a d cs ∧ h0.size ≤ d) := by
  refine Road.Con.of bTs10_pn hEW #[.val (.ref a), .val (.ref q)] (fun m => Road.ent (Road.laid1 rfl (Road.laid1 rfl Road.laid0)) (k := 0) rfl rfl) ?_
  intro D hD
  refine Road.aloadN 0 bStS_d0 rfl ?_
  refine Road.aloadN 1 bStS_d1 rfl ?_
  refine Road.aconstNull 2 bStS_d2 ?_
  refine Road.callI (B' := bTv10) (a := a) 3 (argsL := [(.ref q), .null]) (rest := []) 0 bStS_d3 (wI hw 154 rfl) (wI hw 155 rfl) (wI hw 7 rfl) (wI hw 156 rfl) rfl rfl (by decide) (cTv10 l Z a0 hw n0 hEW a q b cs N h0 σ E Gc Gv S hn hcap hpos naq sa cp Hc hcp) (lenOf bTv10_pd rfl) rfl rfl rfl (by decide) (by decide) (ce' := 1) (sl' := 68) rfl rfl (by decide) (by decide) ?_
  rintro _ h_1 σ_2 m_3 ⟨rfl, K_4, d, T, gd⟩
  exact Road.ret 6 bStS_d6 rfl (by decide) (by decide) (fun σ' m => ⟨rfl, K_4, d, T, gd⟩)
def bTo10 : Road.Bdy := (⟨"java/lang/StringBuilder", "toString", "()Ljava/lang/String;"⟩, jdk_67_method_42_code, 1, (some (.object "java/lang/String")), { frames := 5, cells := 2, slots := 72, locals := 83 })
theorem bTo10_pd : parseMethodDescriptor "()Ljava/lang/String;" = some ⟨[], (some (.object "java/lang/String"))⟩ := by decide +kernel
theorem bTo10_pn : plainFor bTo10.y = true := plainFor_of_name (show plainName "java/lang/StringBuilder" = true from by first | (simp [plainName, overriddenIn]; done) | decide +kernel)
theorem cTo10 (l : Launch) (Z : State) (a0 : Array Value) (hw : ∀ d ∈ tables_1, d.before a0 Z = true) (n0 : Nat) (hEW : EW Z a0 consts_1) (q b : Addr) (cs : List Int32) (N : Nat) (h0 : Heap) (σ : Addr → Prop) (S : Road.Sb1 Z h0 q b cs N) (hn : cs.length < N) (hcap : cs.length ≤ 34) (hpos : 0 < cs.length) (cp : Int32) (Hc : Sta Z Z.heap Road.SN "COMPACT_STRINGS" "Z" (.int cp)) (hcp : ¬ cp = 0) :
    Road.Con l Z consts_1 n0 false bTo10 [] σ #[(.ref q)] h0 (fun v h2 s2 => ∃ a d, v = some (.ref a) ∧ h0.size ≤ a ∧ h0.size ≤ d ∧ Keep h0 h2 [] ∧ Road.Str16 Z h2 a d cs) := by
  refine Road.Con.of bTo10_pn hEW #[.val (.ref q)] (fun m => Road.ent (Road.laid1 rfl Road.laid0) (k := 0) rfl rfl) ?_
  intro D hD
  refine Road.new 0 "java/lang/String" bToS_d0 (wI hw 150 rfl) (wI hw 6 rfl) (wI hw 7 rfl) (ce' := 1) (sl' := 4) rfl rfl (by decide) (by decide) ?_
  intro a h_1 σ_2 g_3 K_4 lt_5 m_6 s_7 E D_8 M_9
  have ne_q_a : q ≠ a := Nat.ne_of_lt (Nat.lt_of_lt_of_le S.lt (Nat.le_of_eq g_3.symm))
  have ne_b_a : b ≠ a := Nat.ne_of_lt (Nat.lt_of_lt_of_le S.ltb (Nat.le_of_eq g_3.symm))
  replace S := S.keep K_4 nin0 nin0
  have Gc := D_8 (Or.inr (wI hw 32 rfl)) (ty := .byte) (by decide)
  have Gv := D_8 (Or.inr (wI hw 34 rfl)) (ty := (.array .byte)) (by decide)
  refine Road.dup 3 bToS_d3 ?_
  refine Road.aloadN 4 bToS_d4 rfl ?_
  refine Road.callI (B' := bTs10) (a := a) 5 (argsL := [(.ref q)]) (rest := [(.ref a)]) 1 bToS_d5 (wI hw 151 rfl) (wI hw 152 rfl) (wI hw 7 rfl) (wI hw 153 rfl) rfl rfl (by decide) (cTs10 l Z a0 hw n0 hEW a q b cs N h_1 σ_2 E Gc Gv S hn hcap hpos (Ne.symm ne_q_a) s_7 cp Hc hcp) (lenOf bTs10_pd rfl) rfl rfl rfl (by decide) (by decide) (ce' := 2) (sl' := 72) rfl rfl (by decide) (by decide) ?_
  rintro _ h_10 σ_11 m_12 ⟨rfl, K_13, d, T, gd⟩
  replace s_7 := m_12 _ s_7
  exact Road.aret 8 bToS_d8 (t := (.object "java/lang/String")) rfl rfl rfl (by decide) (by decide) (fun σ' m => ⟨a, d, rfl, Nat.le_of_eq g_3.symm, Nat.le_trans K_4.1 gd, K_4.trans K_13 (by intro x hx; cases List.mem_singleton.mp hx; exact Or.inr (Nat.le_of_eq g_3.symm)), T⟩)
def bTv11 : Road.Bdy := (⟨"java/lang/String", "<init>", "(Ljava/lang/AbstractStringBuilder;Ljava/lang/Void;)V"⟩, jdk_42_method_150_code, 5, none, { frames := 2, cells := 1, slots := 68, locals := 29 })
theorem bTv11_pd : parseMethodDescriptor "(Ljava/lang/AbstractStringBuilder;Ljava/lang/Void;)V" = some ⟨[(.object "java/lang/AbstractStringBuilder"), (.object "java/lang/Void")], none⟩ := by decide +kernel
theorem bTv11_pn : plainFor bTv11.y = true := plainFor_of_name (show plainName "java/lang/String" = true from by first | (simp [plainName, overriddenIn]; done) | decide +kernel)
theorem cTv11 (l : Launch) (Z : State) (a0 : Array Value) (hw : ∀ d ∈ tables_1, d.before a0 Z = true) (n0 : Nat) (hEW : EW Z a0 consts_1) (a : Addr) (q b : Addr) (cs : List Int32) (N : Nat) (h0 : Heap) (σ : Addr → Prop) (E : Exa Z h0 a Road.SN) (Gc : Fld Z h0 a Road.SN "coder" "B" (.int 0)) (Gv : Fld Z h0 a Road.SN "value" "[B" .null) (S : Road.Sb1 Z h0 q b cs N) (hn : cs.length = N) (hcap : cs.length ≤ 34) (hpos : 0 < cs.length) (naq : a ≠ q) (sa : σ a) (cp : Int32) (Hc : Sta Z Z.heap Road.SN "COMPACT_STRINGS" "Z" (.int cp)) (hcp : ¬ cp = 0) :
    Road.Con l Z consts_1 n0 false bTv11 [] σ #[(.ref a), (.ref q), .null] h0 (fun v h2 s2 => v = none ∧ Keep h0 h2 [a] ∧ ∃ d, Road.Str16 Z h2 a d cs ∧ h0.size ≤ d) := by
  have hN := S.small
  obtain ⟨F, Fc, Fv, Fn, ⟨r, Ab, hr⟩, hlt, Fy, EB⟩ := S
  have hr0 : r = [] := List.eq_nil_of_length_eq_zero (by omega)
  subst hr0
  rw [List.append_nil] at Ab
  refine Road.Con.of bTv11_pn hEW #[.val (.ref a), .val (.ref q), .val .null, .unset, .unset] (fun m => Road.ent (Road.laid1 rfl (Road.laid1 rfl (Road.laid1 rfl Road.laid0))) (k := 2) rfl rfl) ?_
  intro D hD
  refine Road.aloadN 0 bStV_d0 rfl ?_
  refine Road.initObj 1 bStV_d1 (wI hw 16 rfl) (wI hw 17 rfl) (wI hw 18 rfl) 0 rfl rfl (by decide) (by decide) ?_
  refine Road.aloadN 4 bStV_d4 rfl ?_
  refine Road.callV (B' := bGtV) (a := q) 5 (argsL := []) (rest := []) "java/lang/StringBuilder" 0 bStV_d5 (wI hw 157 rfl) (wI hw 158 rfl) (fun vm hz => Road.notFace_sib (args := #[]) (mv (s := D.s.setVm vm) hz (wI hw 95 rfl)) rfl) (wI hw 160 rfl) (wI hw 159 rfl) (wI hw 55 rfl) (wI hw 161 rfl) (by decide) F (cGtV l Z a0 hw n0 hEW q b h0 σ Fv) (lenOf bGtV_pd rfl) rfl rfl rfl (by decide) (by decide) (ce' := 0) (sl' := 0) rfl rfl (by decide) (by decide) ?_
  rintro _ h_1 σ_2 m_3 ⟨rfl, rfl⟩
  refine Road.Go.weaken (σ' := σ) m_3 (Nat.le_refl _) (Nat.le_refl _) ?_
  refine Road.astoreN 8 #[.val (.ref a), .val (.ref q), .val .null, .val (.ref b), .unset] bStV_d8 rfl ?_
  refine Road.aloadN 9 bStV_d9 rfl ?_
  refine Road.callV (B' := bSbN) (a := q) 10 (argsL := []) (rest := []) "java/lang/StringBuilder" 0 bStV_d10 (wI hw 162 rfl) (wI hw 163 rfl) (fun vm hz => Road.notFace_sib (args := #[]) (mv (s := D.s.setVm vm) hz (wI hw 95 rfl)) rfl) (wI hw 165 rfl) (wI hw 166 rfl) (wI hw 47 rfl) (wI hw 167 rfl) (by decide) F (cSbN l Z a0 hw n0 hEW q (Nat.toInt32 cs.length) h0 σ F Fn) (lenOf bSbN_pd rfl) rfl rfl rfl (by decide) (by decide) (ce' := 0) (sl' := 0) rfl rfl (by decide) (by decide) ?_
  rintro _ h_5 σ_6 m_7 ⟨rfl, rfl⟩
  refine Road.Go.weaken (σ' := σ) m_7 (Nat.le_refl _) (Nat.le_refl _) ?_
  refine Road.istore 13 #[.val (.ref a), .val (.ref q), .val .null, .val (.ref b), .val (.int (Nat.toInt32 cs.length))] bStV_d13 rfl ?_
  refine Road.aloadN 15 bStV_d15 rfl ?_
  refine Road.callV (B' := bAL1) (a := q) 16 (argsL := []) (rest := []) "java/lang/StringBuilder" 0 bStV_d16 (wI hw 170 rfl) (wI hw 132 rfl) (fun vm hz => Road.notFace_sib (args := #[]) (mv (s := D.s.setVm vm) hz (wI hw 95 rfl)) rfl) (wI hw 134 rfl) (wI hw 133 rfl) (wI hw 55 rfl) (wI hw 135 rfl) (by decide) F (cAL1 l Z a0 hw n0 hEW q h0 σ Fc cp Hc hcp) (lenOf bAL1_pd rfl) rfl rfl rfl (by decide) (by decide) (ce' := 0) (sl' := 0) rfl rfl (by decide) (by decide) ?_
  rintro _ h_9 σ_10 m_11 ⟨rfl, rfl⟩
  refine Road.Go.weaken (σ' := σ) m_11 (Nat.le_refl _) (Nat.le_refl _) ?_
  have nab : a ≠ b := by obtain ⟨c, Ar, -⟩ := Ab; exact ne_arr E (wI hw 6 rfl) Ar
  refine Road.if_eq 19 41 bStV_d19 rfl (fun hc19 => ?_) (fun q => absurd q (by decide))
  refine Road.getstatic 41 bStV_d41 (wI hw 19 rfl) Via.refl Hc ?_
  refine Road.if_eq 44 79 bStV_d44 rfl (fun q => absurd q hcp) (fun hc44 => ?_)
  refine Road.aloadN 47 bStV_d47 rfl ?_
  refine Road.getfield 48 bStV_d48 (wI hw 278 rfl) Via.refl Fy ?_
  refine Road.if_eq 51 79 bStV_d51 rfl (fun hc51 => ?_) (fun q => absurd q (by decide))
  refine Road.aloadN 79 bStV_d79 rfl ?_
  refine Road.iconst 80 (1 : Int32) bStV_d80 rfl ?_
  refine Road.putfield 81 bStV_d81 (wI hw 31 rfl) Via.refl Gc E (Or.inr ⟨(wI hw 32 rfl), rfl, rfl⟩) (wI hw 6 rfl) (ty := .byte) (by decide) rfl rfl sa ?_
  intro h_15 W_13 K_14
  replace Gc := Gc.same W_13
  replace Gv := Gv.other W_13 (Or.inr (slot_ne (Or.inr (wI hw 34 rfl)) (Or.inr (wI hw 32 rfl)) (by decide) (t := (.array .byte)) (by decide) (t' := .byte) (by decide)))
  replace E := E.keep K_14
  replace EB := EB.keep K_14
  replace Ab := Ab.keep K_14 (ninS (Ne.symm nab) nin0)
  refine Road.aloadN 84 bStV_d84 rfl ?_
  refine Road.aloadN 85 bStV_d85 rfl ?_
  refine Road.iconst 86 (0 : Int32) bStV_d86 rfl ?_
  refine Road.iload 87 bStV_d87 rfl ?_
  refine Road.iconst 89 (1 : Int32) bStV_d89 rfl ?_
  refine Road.ishl 90 bStV_d90 ?_
  refine Road.nameI ?_
  intro z_16 hz_16
  obtain rfl : z_16 = (Nat.toInt32 (2 * cs.length)) := by rw [hz_16]; exact Road.shl1 _
  refine Road.callS (B' := bCrE) 91 (argsL := [(.ref b), (.int (0 : Int32)), (.int (Nat.toInt32 (2 * cs.length)))]) (rest := [(.ref a)]) 1 bStV_d91 (wI hw 171 rfl) (wI hw 172 rfl) (wI hw 173 rfl) (wI hw 174 rfl) (by decide) (cCrE l Z a0 hw n0 hEW b _ (2 * cs.length) h_15 σ Ab EB (Road.utf_len _) (by omega)) (lenOf bCrE_pd rfl) rfl rfl rfl (by decide) (by decide) (ce' := 1) (sl' := 68) rfl rfl (by decide) (by decide) ?_
  rintro _ h_17 σ_18 m_19 ⟨d, rfl, gd, K_20, sd, Ad⟩
  have ne_a_d : a ≠ d := Nat.ne_of_lt (Nat.lt_of_lt_of_le E.lt gd)
  have ne_b_d : b ≠ d := Nat.ne_of_lt (Nat.lt_of_lt_of_le EB.lt gd)
  replace E := E.keep K_20
  replace Gc := Gc.keep K_20 nin0
  replace Gv := Gv.keep K_20 nin0
  replace EB := EB.keep K_20
  replace Ab := Ab.keep K_20 nin0
  replace sa := m_19 _ sa
  refine Road.putfield 94 bStV_d94 (wI hw 33 rfl) Via.refl Gv E (Or.inr ⟨(wI hw 34 rfl), rfl, rfl⟩) (wI hw 6 rfl) (ty := (.array .byte)) (by decide) rfl rfl sa ?_
  intro h_24 W_22 K_23
  replace Gv := Gv.same W_22
  replace Gc := Gc.other W_22 (Or.inr (slot_ne (Or.inr (wI hw 32 rfl)) (Or.inr (wI hw 34 rfl)) (by decide) (t := .byte) (by decide) (t' := (.array .byte)) (by decide)))
  replace E := E.keep K_23
  replace EB := EB.keep K_23
  replace Ab := Ab.keep K_23 (ninS (Ne.symm nab) nin0)
  replace Ad := Ad.keep K_23 (ninS (Ne.symm ne_a_d) nin0)
  exact Road.ret 97 bStV_d97 rfl (by decide) (by decide) (fun σ' m => ⟨rfl, (K_14.trans (Road.keep_more (ws := [a]) K_20) (by simp)).trans K_23 (by simp), d, ⟨E, Gc, Gv, Ad, hlt, hpos⟩, Nat.le_trans K_14.1 gd⟩)
def bTs11 : Road.Bdy := (⟨"java/lang/String", "<init>", "(Ljava/lang/StringBuilder;)V"⟩, jdk_42_method_53_code, 2, none, { frames := 3, cells := 1, slots := 68, locals := 45 })
theorem bTs11_pd : parseMethodDescriptor "(Ljava/lang/StringBuilder;)V" = some ⟨[(.object "java/lang/StringBuilder")], none⟩ := by decide +kernel
theorem bTs11_pn : plainFor bTs11.y = true := plainFor_of_name (show plainName "java/lang/String" = true from by first | (simp [plainName, overriddenIn]; done) | decide +kernel)
theorem cTs11 (l : Launch) (Z : State) (a0 : Array Value) (hw : ∀ d ∈ tables_1, d.before a0 Z = true) (n0 : Nat) (hEW : EW Z a0 consts_1) (a : Addr) (q b : Addr) (cs : List Int32) (N : Nat) (h0 : Heap) (σ : Addr → Prop) (E : Exa Z h0 a Road.SN) (Gc : Fld Z h0 a Road.SN "coder" "B" (.int 0)) (Gv : Fld Z h0 a Road.SN "value" "[B" .null) (S : Road.Sb1 Z h0 q b cs N) (hn : cs.length = N) (hcap : cs.length ≤ 34) (hpos : 0 < cs.length) (naq : a ≠ q) (sa : σ a) (cp : Int32) (Hc : Sta Z Z.heap Road.SN "COMPACT_STRINGS" "Z" (.int cp)) (hcp : ¬ cp = 0) :
    Road.Con l Z consts_1 n0 false bTs11 [] σ #[(.ref a), (.ref q)] h0 (fun v h2 s2 => v = none ∧ Keep h0 h2 [a] ∧ ∃ d, Road.Str16 Z h2 a d cs ∧ h0.size ≤ d) := by
  refine Road.Con.of bTs11_pn hEW #[.val (.ref a), .val (.ref q)] (fun m => Road.ent (Road.laid1 rfl (Road.laid1 rfl Road.laid0)) (k := 0) rfl rfl) ?_
  intro D hD
  refine Road.aloadN 0 bStS_d0 rfl ?_
  refine Road.aloadN 1 bStS_d1 rfl ?_
  refine Road.aconstNull 2 bStS_d2 ?_
  refine Road.callI (B' := bTv11) (a := a) 3 (argsL := [(.ref q), .null]) (rest := []) 0 bStS_d3 (wI hw 154 rfl) (wI hw 155 rfl) (wI hw 7 rfl) (wI hw 156 rfl) rfl rfl (by decide) (cTv11 l Z a0 hw n0 hEW a q b cs N h0 σ E Gc Gv S hn hcap hpos naq sa cp Hc hcp) (lenOf bTv11_pd rfl) rfl rfl rfl (by decide) (by decide) (ce' := 1) (sl' := 68) rfl rfl (by decide) (by decide) ?_
  rintro _ h_1 σ_2 m_3 ⟨rfl, K_4, d, T, gd⟩
  exact Road.ret 6 bStS_d6 rfl (by decide) (by decide) (fun σ' m => ⟨rfl, K_4, d, T, gd⟩)
def bTo11 : Road.Bdy := (⟨"java/lang/StringBuilder", "toString", "()Ljava/lang/String;"⟩, jdk_67_method_42_code, 1, (some (.object "java/lang/String")), { frames := 4, cells := 2, slots := 72, locals := 59 })
theorem bTo11_pd : parseMethodDescriptor "()Ljava/lang/String;" = some ⟨[], (some (.object "java/lang/String"))⟩ := by decide +kernel
theorem bTo11_pn : plainFor bTo11.y = true := plainFor_of_name (show plainName "java/lang/StringBuilder" = true from by first | (simp [plainName, overriddenIn]; done) | decide +kernel)
theorem cTo11 (l : Launch) (Z : State) (a0 : Array Value) (hw : ∀ d ∈ tables_1, d.before a0 Z = true) (n0 : Nat) (hEW : EW Z a0 consts_1) (q b : Addr) (cs : List Int32) (N : Nat) (h0 : Heap) (σ : Addr → Prop) (S : Road.Sb1 Z h0 q b cs N) (hn : cs.length = N) (hcap : cs.length ≤ 34) (hpos : 0 < cs.length) (cp : Int32) (Hc : Sta Z Z.heap Road.SN "COMPACT_STRINGS" "Z" (.int cp)) (hcp : ¬ cp = 0) :
    Road.Con l Z consts_1 n0 false bTo11 [] σ #[(.ref q)] h0 (fun v h2 s2 => ∃ a d, v = some (.ref a) ∧ h0.size ≤ a ∧ h0.size ≤ d ∧ Keep h0 h2 [] ∧ Road.Str16 Z h2 a d cs) := by
  refine Road.Con.of bTo11_pn hEW #[.val (.ref q)] (fun m => Road.ent (Road.laid1 rfl Road.laid0) (k := 0) rfl rfl) ?_
  intro D hD
  refine Road.new 0 "java/lang/String" bToS_d0 (wI hw 150 rfl) (wI hw 6 rfl) (wI hw 7 rfl) (ce' := 1) (sl' := 4) rfl rfl (by decide) (by decide) ?_
  intro a h_1 σ_2 g_3 K_4 lt_5 m_6 s_7 E D_8 M_9
  have ne_q_a : q ≠ a := Nat.ne_of_lt (Nat.lt_of_lt_of_le S.lt (Nat.le_of_eq g_3.symm))
  have ne_b_a : b ≠ a := Nat.ne_of_lt (Nat.lt_of_lt_of_le S.ltb (Nat.le_of_eq g_3.symm))
  replace S := S.keep K_4 nin0 nin0
  have Gc := D_8 (Or.inr (wI hw 32 rfl)) (ty := .byte) (by decide)
  have Gv := D_8 (Or.inr (wI hw 34 rfl)) (ty := (.array .byte)) (by decide)
  refine Road.dup 3 bToS_d3 ?_
  refine Road.aloadN 4 bToS_d4 rfl ?_
  refine Road.callI (B' := bTs11) (a := a) 5 (argsL := [(.ref q)]) (rest := [(.ref a)]) 1 bToS_d5 (wI hw 151 rfl) (wI hw 152 rfl) (wI hw 7 rfl) (wI hw 153 rfl) rfl rfl (by decide) (cTs11 l Z a0 hw n0 hEW a q b cs N h_1 σ_2 E Gc Gv S hn hcap hpos (Ne.symm ne_q_a) s_7 cp Hc hcp) (lenOf bTs11_pd rfl) rfl rfl rfl (by decide) (by decide) (ce' := 2) (sl' := 72) rfl rfl (by decide) (by decide) ?_
  rintro _ h_10 σ_11 m_12 ⟨rfl, K_13, d, T, gd⟩
  replace s_7 := m_12 _ s_7
  exact Road.aret 8 bToS_d8 (t := (.object "java/lang/String")) rfl rfl rfl (by decide) (by decide) (fun σ' m => ⟨a, d, rfl, Nat.le_of_eq g_3.symm, Nat.le_trans K_4.1 gd, K_4.trans K_13 (by intro x hx; cases List.mem_singleton.mp hx; exact Or.inr (Nat.le_of_eq g_3.symm)), T⟩)
def bEmp : Road.Bdy := (⟨"java/lang/String", "isEmpty", "()Z"⟩, jdk_42_method_55_code, 1, (some .boolean), { frames := 0, cells := 0, slots := 0, locals := 0 })
theorem bEmp_pd : parseMethodDescriptor "()Z" = some ⟨[], (some .boolean)⟩ := by decide +kernel
theorem bEmp_pn : plainFor bEmp.y = true := plainFor_of_name (show plainName "java/lang/String" = true from by first | (simp [plainName, overriddenIn]; done) | decide +kernel)
theorem cEmp (l : Launch) (Z : State) (a0 : Array Value) (hw : ∀ d ∈ tables_1, d.before a0 Z = true) (n0 : Nat) (hEW : EW Z a0 consts_1) (a b : Addr) (cs : List Int32) (h0 : Heap) (σ : Addr → Prop) (S : Road.Str Z h0 a b cs) :
    Road.Con l Z consts_1 n0 false bEmp [] σ #[(.ref a)] h0 (fun v h2 _ => v = some (.int (if cs = [] then 1 else 0)) ∧ h0 = h2) := by
  refine Road.Con.of bEmp_pn hEW #[.val (.ref a)] (fun m => Road.ent (Road.laid1 rfl Road.laid0) (k := 0) rfl rfl) ?_
  intro D hD
  have hn : cs.length < 2147483648 := by have := S.2.2.2.1.small; rwa [List.length_map] at this
  refine Road.aloadN 0 bEm1_d0 rfl ?_
  refine Road.getfield 1 bEm1_d1 (wI hw 33 rfl) Via.refl S.2.2.1 ?_
  refine Road.alen 4 (Nat.toInt32 cs.length) bEm1_d4 S.2.2.2.1 (n := cs.length) (List.length_map _) rfl ?_
  refine Road.if_ne 5 12 bEm1_d5 rfl (fun hc5 => ?_) (fun hc5 => ?_)
  · skip
    refine Road.iconst 12 (0 : Int32) bEm1_d12 rfl ?_
    exact Road.iret 13 0 bEm1_d13 (t := .boolean) rfl (by simp) rfl (by decide) (by decide) (fun σ' m => ⟨by rw [if_neg]; rintro rfl; exact hc5 rfl, rfl⟩)
  · skip
    refine Road.iconst 8 (1 : Int32) bEm1_d8 rfl ?_
    refine Road.goto 9 13 bEm1_d9 rfl ?_
    exact Road.iret 13 1 bEm1_d13 (t := .boolean) rfl (by simp) rfl (by decide) (by decide) (fun σ' m => ⟨by rw [if_pos (List.eq_nil_of_length_eq_zero ((Road.eq32 (j := 0) hn (by omega)).mp hc5))], rfl⟩)
def bIsL : Road.Bdy := (⟨"java/lang/String", "isLatin1", "()Z"⟩, jdk_42_method_154_code, 1, (some .boolean), { frames := 0, cells := 0, slots := 0, locals := 0 })
theorem bIsL_pd : parseMethodDescriptor "()Z" = some ⟨[], (some .boolean)⟩ := by decide +kernel
theorem bIsL_pn : plainFor bIsL.y = true := plainFor_of_name (show plainName "java/lang/String" = true from by first | (simp [plainName, overriddenIn]; done) | decide +kernel)
theorem cIsL (l : Launch) (Z : State) (a0 : Array Value) (hw : ∀ d ∈ tables_1, d.before a0 Z = true) (n0 : Nat) (hEW : EW Z a0 consts_1) (a : Addr) (h0 : Heap) (σ : Addr → Prop) (Fc : Fld Z h0 a Road.SN "coder" "B" (.int 0)) (cp : Int32) (Hc : Sta Z Z.heap Road.SN "COMPACT_STRINGS" "Z" (.int cp)) (hcp : ¬ cp = 0) :
    Road.Con l Z consts_1 n0 false bIsL [] σ #[(.ref a)] h0 (fun v h2 _ => v = some (.int 1) ∧ h0 = h2) := by
  refine Road.Con.of bIsL_pn hEW #[.val (.ref a)] (fun m => Road.ent (Road.laid1 rfl Road.laid0) (k := 0) rfl rfl) ?_
  intro D hD
  refine Road.getstatic 0 bIl1_d0 (wI hw 19 rfl) Via.refl Hc ?_
  refine Road.if_eq 3 17 bIl1_d3 rfl (fun q => absurd q hcp) (fun hc3 => ?_)
  refine Road.aloadN 6 bIl1_d6 rfl ?_
  refine Road.getfield 7 bIl1_d7 (wI hw 31 rfl) Via.refl Fc ?_
  refine Road.if_ne 10 17 bIl1_d10 rfl (fun q => absurd q (by decide)) (fun hc10 => ?_)
  refine Road.iconst 13 (1 : Int32) bIl1_d13 rfl ?_
  refine Road.goto 14 18 bIl1_d14 rfl ?_
  exact Road.iret 18 1 bIl1_d18 (t := .boolean) rfl (by simp) rfl (by decide) (by decide) (fun σ' m => ⟨rfl, rfl⟩)
def bLch : Road.Bdy := (⟨"java/lang/StringLatin1", "charAt", "([BI)C"⟩, jdk_43_method_2_code, 2, (some .char), { frames := 2, cells := 0, slots := 0, locals := 27 })
theorem bLch_d0 : decode bLch.bs 0 = .ok (.iload_n 1, 1) := by decide +kernel
theorem bLch_d1 : decode bLch.bs 1 = .ok (.aload_n 0, 1) := by decide +kernel
theorem bLch_d2 : decode bLch.bs 2 = .ok (.arraylength, 1) := by decide +kernel
theorem bLch_d3 : decode bLch.bs 3 = .ok (.invokestatic 9, 3) := by decide +kernel
theorem bLch_d6 : decode bLch.bs 6 = .ok (.aload_n 0, 1) := by decide +kernel
theorem bLch_d7 : decode bLch.bs 7 = .ok (.iload_n 1, 1) := by decide +kernel
theorem bLch_d8 : decode bLch.bs 8 = .ok (.baload, 1) := by decide +kernel
theorem bLch_d9 : decode bLch.bs 9 = .ok (.sipush 255, 3) := by decide +kernel
theorem bLch_d12 : decode bLch.bs 12 = .ok (.iand, 1) := by decide +kernel
theorem bLch_d13 : decode bLch.bs 13 = .ok (.i2c, 1) := by decide +kernel
theorem bLch_d14 : decode bLch.bs 14 = .ok (.ireturn, 1) := by decide +kernel
theorem bLch_pd : parseMethodDescriptor "([BI)C" = some ⟨[(.array .byte), .int], (some .char)⟩ := by decide +kernel
theorem bLch_pn : plainFor bLch.y = true := plainFor_of_name (show plainName "java/lang/StringLatin1" = true from by first | (simp [plainName, overriddenIn]; done) | decide +kernel)
theorem cLch (l : Launch) (Z : State) (a0 : Array Value) (hw : ∀ d ∈ tables_1, d.before a0 Z = true) (n0 : Nat) (hEW : EW Z a0 consts_1) (b : Addr) (cs : List Int32) (j : Int32) (i : Nat) (h0 : Heap) (σ : Addr → Prop) (A : Road.Ary Z h0 b .byte (cs.map Road.byt)) (hlat : ∀ c ∈ cs, 0 ≤ c.toInt ∧ c.toInt < 256) (hj : j.toInt = (i : Int)) (hi : i < cs.length) (fm : Value) (hfm : fm.isRef = true) (Hf : Sta Z Z.heap "jdk/internal/util/Preconditions" "SIOOBE_FORMATTER" "Ljava/util/function/BiFunction;" fm) :
    Road.Con l Z consts_1 n0 false bLch [] σ #[(.ref b), (.int j)] h0 (fun v h2 _ => v = some (.int cs[i]) ∧ h0 = h2) := by
  refine Road.Con.of bLch_pn hEW #[.val (.ref b), .val (.int j)] (fun m => Road.ent (Road.laid1 rfl (Road.laid1 rfl Road.laid0)) (k := 0) rfl rfl) ?_
  intro D hD
  have hn : cs.length < 2147483648 := by have := A.small; rwa [List.length_map] at this
  have hjn : j < Nat.toInt32 cs.length := by rw [Int32.lt_iff_toInt_lt, Road.n32 hn, hj]; omega
  refine Road.iloadN 0 bLch_d0 rfl ?_
  refine Road.aloadN 1 bLch_d1 rfl ?_
  refine Road.alen 2 (Nat.toInt32 cs.length) bLch_d2 A (n := cs.length) (List.length_map _) rfl ?_
  refine Road.callS (B' := bChk) 3 (argsL := [(.int j), (.int (Nat.toInt32 cs.length))]) (rest := []) 0 bLch_d3 (wI hw 210 rfl) (wI hw 211 rfl) (wI hw 7 rfl) (wI hw 212 rfl) (by decide) (cChk l Z a0 hw n0 hEW j (Nat.toInt32 cs.length) h0 σ fm hfm Hf (Road.ix_of hj).1 hjn) (lenOf bChk_pd rfl) rfl rfl rfl (by decide) (by decide) (ce' := 0) (sl' := 0) rfl rfl (by decide) (by decide) ?_
  rintro _ h_1 σ_2 m_3 ⟨rfl, rfl⟩
  refine Road.Go.weaken (σ' := σ) m_3 (Nat.le_refl _) (Nat.le_refl _) ?_
  refine Road.aloadN 6 bLch_d6 rfl ?_
  refine Road.iloadN 7 bLch_d7 rfl ?_
  refine Road.baload 8 i bLch_d8 A hj (by rw [List.getElem?_map, List.getElem?_eq_getElem hi]; rfl) ?_
  refine Road.sipush 9 (255 : Int32) bLch_d9 rfl ?_
  refine Road.iand 12 bLch_d12 ?_
  refine Road.i2c 13 bLch_d13 ?_
  exact Road.iret 14 cs[i] bLch_d14 (t := .char) rfl (by simp) (Road.byte_back (hlat _ (List.getElem_mem hi))) (by decide) (by decide) (fun σ' m => ⟨rfl, rfl⟩)
def bChA : Road.Bdy := (⟨"java/lang/String", "charAt", "(I)C"⟩, jdk_42_method_56_code, 2, (some .char), { frames := 3, cells := 0, slots := 0, locals := 40 })
theorem bChA_pd : parseMethodDescriptor "(I)C" = some ⟨[.int], (some .char)⟩ := by decide +kernel
theorem bChA_pn : plainFor bChA.y = true := plainFor_of_name (show plainName "java/lang/String" = true from by first | (simp [plainName, overriddenIn]; done) | decide +kernel)
theorem cChA (l : Launch) (Z : State) (a0 : Array Value) (hw : ∀ d ∈ tables_1, d.before a0 Z = true) (n0 : Nat) (hEW : EW Z a0 consts_1) (a b : Addr) (cs : List Int32) (j : Int32) (i : Nat) (h0 : Heap) (σ : Addr → Prop) (S : Road.Str Z h0 a b cs) (hj : j.toInt = (i : Int)) (hi : i < cs.length) (cp : Int32) (Hc : Sta Z Z.heap Road.SN "COMPACT_STRINGS" "Z" (.int cp)) (hcp : ¬ cp = 0) (fm : Value) (hfm : fm.isRef = true) (Hf : Sta Z Z.heap "jdk/internal/util/Preconditions" "SIOOBE_FORMATTER" "Ljava/util/function/BiFunction;" fm) :
    Road.Con l Z consts_1 n0 false bChA [] σ #[(.ref a), (.int j)] h0 (fun v h2 _ => v = some (.int cs[i]) ∧ h0 = h2) := by
  refine Road.Con.of bChA_pn hEW #[.val (.ref a), .val (.int j)] (fun m => Road.ent (Road.laid1 rfl (Road.laid1 rfl Road.laid0)) (k := 0) rfl rfl) ?_
  intro D hD
  refine Road.aloadN 0 bCh1_d0 rfl ?_
  refine Road.callV (B' := bIsL) (a := a) 1 (argsL := []) (rest := []) "java/lang/String" 0 bCh1_d1 (wI hw 202 rfl) (wI hw 203 rfl) (fun vm hz => Road.notFace_sib (args := #[]) (mv (s := D.s.setVm vm) hz (wI hw 83 rfl)) rfl) (wI hw 205 rfl) (wI hw 204 rfl) (wI hw 7 rfl) (wI hw 206 rfl) (by decide) S.1 (cIsL l Z a0 hw n0 hEW a h0 σ S.2.1 cp Hc hcp) (lenOf bIsL_pd rfl) rfl rfl rfl (by decide) (by decide) (ce' := 0) (sl' := 0) rfl rfl (by decide) (by decide) ?_
  rintro _ h_1 σ_2 m_3 ⟨rfl, rfl⟩
  refine Road.Go.weaken (σ' := σ) m_3 (Nat.le_refl _) (Nat.le_refl _) ?_
  refine Road.if_eq 4 16 bCh1_d4 rfl (fun q => absurd q (by decide)) (fun hc4 => ?_)
  refine Road.aloadN 7 bCh1_d7 rfl ?_
  refine Road.getfield 8 bCh1_d8 (wI hw 33 rfl) Via.refl S.2.2.1 ?_
  refine Road.iloadN 11 bCh1_d11 rfl ?_
  refine Road.callS (B' := bLch) 12 (argsL := [(.ref b), (.int j)]) (rest := []) 0 bCh1_d12 (wI hw 207 rfl) (wI hw 208 rfl) (wI hw 138 rfl) (wI hw 209 rfl) (by decide) (cLch l Z a0 hw n0 hEW b cs j i h0 σ S.2.2.2.1 S.2.2.2.2 hj hi fm hfm Hf) (lenOf bLch_pd rfl) rfl rfl rfl (by decide) (by decide) (ce' := 0) (sl' := 0) rfl rfl (by decide) (by decide) ?_
  rintro _ h_5 σ_6 m_7 ⟨rfl, rfl⟩
  refine Road.Go.weaken (σ' := σ) m_7 (Nat.le_refl _) (Nat.le_refl _) ?_
  exact Road.iret 15 cs[i] bCh1_d15 (t := .char) rfl (by simp) (Road.nar_lat (S.2.2.2.2 _ (List.getElem_mem hi))) (by decide) (by decide) (fun σ' m => ⟨rfl, rfl⟩)
def bLnX : Road.Bdy := (⟨"java/lang/String", "length", "()I"⟩, jdk_42_method_54_code, 1, (some .int), { frames := 1, cells := 0, slots := 0, locals := 13 })
theorem bLnX_pd : parseMethodDescriptor "()I" = some ⟨[], (some .int)⟩ := by decide +kernel
theorem bLnX_pn : plainFor bLnX.y = true := plainFor_of_name (show plainName "java/lang/String" = true from by first | (simp [plainName, overriddenIn]; done) | decide +kernel)
theorem cLnX (l : Launch) (Z : State) (a0 : Array Value) (hw : ∀ d ∈ tables_1, d.before a0 Z = true) (n0 : Nat) (hEW : EW Z a0 consts_1) (s sb : Addr) (ds : List Int32) (h0 : Heap) (σ : Addr → Prop) (T : Road.StrX Z h0 s sb ds) (cp : Int32) (Hc : Sta Z Z.heap Road.SN "COMPACT_STRINGS" "Z" (.int cp)) (hcp : ¬ cp = 0) :
    Road.Con l Z consts_1 n0 false bLnX [] σ #[(.ref s)] h0 (fun v h2 _ => v = some (.int (Nat.toInt32 ds.length)) ∧ h0 = h2) := by
  refine Road.Con.of bLnX_pn hEW #[.val (.ref s)] (fun m => Road.ent (Road.laid1 rfl Road.laid0) (k := 0) rfl rfl) ?_
  intro D hD
  rcases T with T | T
  · skip
    have hsm := T.2.2.2.1.small
    rw [List.length_map] at hsm
    refine Road.aloadN 0 bLen_d0 rfl ?_
    refine Road.getfield 1 bLen_d1 (wI hw 33 rfl) Via.refl T.2.2.1 ?_
    refine Road.alen 4 (Nat.toInt32 ds.length) bLen_d4 T.2.2.2.1 (n := ds.length) (List.length_map _) rfl ?_
    refine Road.aloadN 5 bLen_d5 rfl ?_
    refine Road.callV (B' := bCod) (a := s) 6 (argsL := []) (rest := [(.int (Nat.toInt32 ds.length))]) "java/lang/String" 1 bLen_d6 (wI hw 85 rfl) (wI hw 86 rfl) (fun vm hz => Road.notFace_sib (args := #[]) (mv (s := D.s.setVm vm) hz (wI hw 83 rfl)) rfl) (wI hw 88 rfl) (wI hw 87 rfl) (wI hw 7 rfl) (wI hw 89 rfl) (by decide) T.1 (cCod l Z a0 hw n0 hEW s h0 σ T.2.1 cp Hc hcp) (lenOf bCod_pd rfl) rfl rfl rfl (by decide) (by decide) (ce' := 0) (sl' := 0) rfl rfl (by decide) (by decide) ?_
    rintro _ h_1 σ_2 m_3 ⟨rfl, rfl⟩
    refine Road.Go.weaken (σ' := σ) m_3 (Nat.le_refl _) (Nat.le_refl _) ?_
    refine Road.ishr 9 bLen_d9 ?_
    refine Road.nameI ?_
    intro z_5 hz_5
    obtain rfl : z_5 = (Nat.toInt32 ds.length) := by rw [hz_5]; exact Road.shr0 _
    exact Road.iretI 10 bLen_d10 rfl (by decide) (by decide) (fun σ' m => ⟨rfl, rfl⟩)
  · skip
    have hsm := T.2.2.2.1.small
    rw [Road.utf_len] at hsm
    refine Road.aloadN 0 bLen_d0 rfl ?_
    refine Road.getfield 1 bLen_d1 (wI hw 33 rfl) Via.refl T.2.2.1 ?_
    refine Road.alen 4 (Nat.toInt32 (2 * ds.length)) bLen_d4 T.2.2.2.1 (n := (2 * ds.length)) (Road.utf_len _) rfl ?_
    refine Road.aloadN 5 bLen_d5 rfl ?_
    refine Road.callV (B' := bCo1) (a := s) 6 (argsL := []) (rest := [(.int (Nat.toInt32 (2 * ds.length)))]) "java/lang/String" 1 bLen_d6 (wI hw 85 rfl) (wI hw 86 rfl) (fun vm hz => Road.notFace_sib (args := #[]) (mv (s := D.s.setVm vm) hz (wI hw 83 rfl)) rfl) (wI hw 88 rfl) (wI hw 87 rfl) (wI hw 7 rfl) (wI hw 89 rfl) (by decide) T.1 (cCo1 l Z a0 hw n0 hEW s h0 σ T.2.1 cp Hc hcp) (lenOf bCo1_pd rfl) rfl rfl rfl (by decide) (by decide) (ce' := 0) (sl' := 0) rfl rfl (by decide) (by decide) ?_
    rintro _ h_6 σ_7 m_8 ⟨rfl, rfl⟩
    refine Road.Go.weaken (σ' := σ) m_8 (Nat.le_refl _) (Nat.le_refl _) ?_
    refine Road.ishr 9 bLen_d9 ?_
    refine Road.nameI ?_
    intro z_10 hz_10
    obtain rfl : z_10 = (Nat.toInt32 ds.length) := by rw [hz_10]; exact Road.shr1 (by omega)
    exact Road.iretI 10 bLen_d10 rfl (by decide) (by decide) (fun σ' m => ⟨rfl, rfl⟩)
def bEmX : Road.Bdy := (⟨"java/lang/String", "isEmpty", "()Z"⟩, jdk_42_method_55_code, 1, (some .boolean), { frames := 0, cells := 0, slots := 0, locals := 0 })
theorem bEmX_pd : parseMethodDescriptor "()Z" = some ⟨[], (some .boolean)⟩ := by decide +kernel
theorem bEmX_pn : plainFor bEmX.y = true := plainFor_of_name (show plainName "java/lang/String" = true from by first | (simp [plainName, overriddenIn]; done) | decide +kernel)
theorem cEmX (l : Launch) (Z : State) (a0 : Array Value) (hw : ∀ d ∈ tables_1, d.before a0 Z = true) (n0 : Nat) (hEW : EW Z a0 consts_1) (s sb : Addr) (ds : List Int32) (h0 : Heap) (σ : Addr → Prop) (T : Road.StrX Z h0 s sb ds) :
    Road.Con l Z consts_1 n0 false bEmX [] σ #[(.ref s)] h0 (fun v h2 _ => v = some (.int (if ds = [] then 1 else 0)) ∧ h0 = h2) := by
  refine Road.Con.of bEmX_pn hEW #[.val (.ref s)] (fun m => Road.ent (Road.laid1 rfl Road.laid0) (k := 0) rfl rfl) ?_
  intro D hD
  rcases T with T | T
  · skip
    have hsm := T.2.2.2.1.small
    rw [List.length_map] at hsm
    refine Road.aloadN 0 bEm1_d0 rfl ?_
    refine Road.getfield 1 bEm1_d1 (wI hw 33 rfl) Via.refl T.2.2.1 ?_
    refine Road.alen 4 (Nat.toInt32 ds.length) bEm1_d4 T.2.2.2.1 (n := ds.length) (List.length_map _) rfl ?_
    refine Road.if_ne 5 12 bEm1_d5 rfl (fun hc5 => ?_) (fun hc5 => ?_)
    · skip
      refine Road.iconst 12 (0 : Int32) bEm1_d12 rfl ?_
      exact Road.iret 13 0 bEm1_d13 (t := .boolean) rfl (by simp) rfl (by decide) (by decide) (fun σ' m => ⟨by rw [if_neg (by rintro rfl; exact hc5 rfl)], rfl⟩)
    · skip
      refine Road.iconst 8 (1 : Int32) bEm1_d8 rfl ?_
      refine Road.goto 9 13 bEm1_d9 rfl ?_
      exact Road.iret 13 1 bEm1_d13 (t := .boolean) rfl (by simp) rfl (by decide) (by decide) (fun σ' m => ⟨by rw [if_pos (List.eq_nil_of_length_eq_zero (by have := (Road.eq32 (i := ds.length) (j := 0) (by omega) (by omega)).mp hc5; omega))], rfl⟩)
  · skip
    have hsm := T.2.2.2.1.small
    rw [Road.utf_len] at hsm
    refine Road.aloadN 0 bEm1_d0 rfl ?_
    refine Road.getfield 1 bEm1_d1 (wI hw 33 rfl) Via.refl T.2.2.1 ?_
    refine Road.alen 4 (Nat.toInt32 (2 * ds.length)) bEm1_d4 T.2.2.2.1 (n := (2 * ds.length)) (Road.utf_len _) rfl ?_
    refine Road.if_ne 5 12 bEm1_d5 rfl (fun hc5 => ?_) (fun hc5 => ?_)
    · skip
      refine Road.iconst 12 (0 : Int32) bEm1_d12 rfl ?_
      exact Road.iret 13 0 bEm1_d13 (t := .boolean) rfl (by simp) rfl (by decide) (by decide) (fun σ' m => ⟨by rw [if_neg (by rintro rfl; exact hc5 rfl)], rfl⟩)
    · skip
      refine Road.iconst 8 (1 : Int32) bEm1_d8 rfl ?_
      refine Road.goto 9 13 bEm1_d9 rfl ?_
      exact Road.iret 13 1 bEm1_d13 (t := .boolean) rfl (by simp) rfl (by decide) (by decide) (fun σ' m => ⟨by rw [if_pos (List.eq_nil_of_length_eq_zero (by have := (Road.eq32 (i := (2 * ds.length)) (j := 0) (by omega) (by omega)).mp hc5; omega))], rfl⟩)
def bChX : Road.Bdy := (⟨"java/lang/String", "charAt", "(I)C"⟩, jdk_42_method_56_code, 2, (some .char), { frames := 4, cells := 0, slots := 0, locals := 53 })
theorem bChX_pd : parseMethodDescriptor "(I)C" = some ⟨[.int], (some .char)⟩ := by decide +kernel
theorem bChX_pn : plainFor bChX.y = true := plainFor_of_name (show plainName "java/lang/String" = true from by first | (simp [plainName, overriddenIn]; done) | decide +kernel)
theorem cChX (l : Launch) (Z : State) (a0 : Array Value) (hw : ∀ d ∈ tables_1, d.before a0 Z = true) (n0 : Nat) (hEW : EW Z a0 consts_1) (s sb : Addr) (ds : List Int32) (i : Nat) (c : Int32) (h0 : Heap) (σ : Addr → Prop) (T : Road.StrX Z h0 s sb ds) (hat : ds[i]? = some c) (cp : Int32) (Hc : Sta Z Z.heap Road.SN "COMPACT_STRINGS" "Z" (.int cp)) (hcp : ¬ cp = 0) (fm : Value) (hfm : fm.isRef = true) (Hf : Sta Z Z.heap "jdk/internal/util/Preconditions" "SIOOBE_FORMATTER" "Ljava/util/function/BiFunction;" fm) (H0 : Sta Z Z.heap "java/lang/StringUTF16" "$assertionsDisabled" "Z" (.int 1)) (H1 : Sta Z Z.heap "java/lang/StringUTF16" "HI_BYTE_SHIFT" "I" (.int 0)) (H2 : Sta Z Z.heap "java/lang/StringUTF16" "LO_BYTE_SHIFT" "I" (.int 8)) :
    Road.Con l Z consts_1 n0 false bChX [] σ #[(.ref s), (.int (Nat.toInt32 i))] h0 (fun v h2 _ => v = some (.int c) ∧ h0 = h2) := by
  refine Road.Con.of bChX_pn hEW #[.val (.ref s), .val (.int (Nat.toInt32 i))] (fun m => Road.ent (Road.laid1 rfl (Road.laid1 rfl Road.laid0)) (k := 0) rfl rfl) ?_
  intro D hD
  obtain ⟨hi, hcv⟩ := List.getElem?_eq_some_iff.mp hat
  rcases T with T | T
  · skip
    have hsm := T.2.2.2.1.small
    rw [List.length_map] at hsm
    refine Road.aloadN 0 bCh1_d0 rfl ?_
    refine Road.callV (B' := bIsL) (a := s) 1 (argsL := []) (rest := []) "java/lang/String" 0 bCh1_d1 (wI hw 202 rfl) (wI hw 203 rfl) (fun vm hz => Road.notFace_sib (args := #[]) (mv (s := D.s.setVm vm) hz (wI hw 83 rfl)) rfl) (wI hw 205 rfl) (wI hw 204 rfl) (wI hw 7 rfl) (wI hw 206 rfl) (by decide) T.1 (cIsL l Z a0 hw n0 hEW s h0 σ T.2.1 cp Hc hcp) (lenOf bIsL_pd rfl) rfl rfl rfl (by decide) (by decide) (ce' := 0) (sl' := 0) rfl rfl (by decide) (by decide) ?_
    rintro _ h_1 σ_2 m_3 ⟨rfl, rfl⟩
    refine Road.Go.weaken (σ' := σ) m_3 (Nat.le_refl _) (Nat.le_refl _) ?_
    refine Road.if_eq 4 16 bCh1_d4 rfl (fun q => absurd q (by decide)) (fun hc4 => ?_)
    refine Road.aloadN 7 bCh1_d7 rfl ?_
    refine Road.getfield 8 bCh1_d8 (wI hw 33 rfl) Via.refl T.2.2.1 ?_
    refine Road.iloadN 11 bCh1_d11 rfl ?_
    refine Road.callS (B' := bLch) 12 (argsL := [(.ref sb), (.int (Nat.toInt32 i))]) (rest := []) 0 bCh1_d12 (wI hw 207 rfl) (wI hw 208 rfl) (wI hw 138 rfl) (wI hw 209 rfl) (by decide) (cLch l Z a0 hw n0 hEW sb ds (Nat.toInt32 i) i h0 σ T.2.2.2.1 T.2.2.2.2 (Road.n32 (by omega)) hi fm hfm Hf) (lenOf bLch_pd rfl) rfl rfl rfl (by decide) (by decide) (ce' := 0) (sl' := 0) rfl rfl (by decide) (by decide) ?_
    rintro _ h_5 σ_6 m_7 ⟨rfl, rfl⟩
    refine Road.Go.weaken (σ' := σ) m_7 (Nat.le_refl _) (Nat.le_refl _) ?_
    exact Road.iret 15 c bCh1_d15 (t := .char) rfl (by simp) (by rw [hcv]; exact Road.nar_lat (hcv ▸ T.2.2.2.2 _ (List.getElem_mem hi))) (by decide) (by decide) (fun σ' m => ⟨rfl, rfl⟩)
  · skip
    refine Road.aloadN 0 bCh1_d0 rfl ?_
    refine Road.callV (B' := bIl1) (a := s) 1 (argsL := []) (rest := []) "java/lang/String" 0 bCh1_d1 (wI hw 202 rfl) (wI hw 203 rfl) (fun vm hz => Road.notFace_sib (args := #[]) (mv (s := D.s.setVm vm) hz (wI hw 83 rfl)) rfl) (wI hw 205 rfl) (wI hw 204 rfl) (wI hw 7 rfl) (wI hw 206 rfl) (by decide) T.1 (cIl1 l Z a0 hw n0 hEW s h0 σ T.2.1 cp Hc hcp) (lenOf bIl1_pd rfl) rfl rfl rfl (by decide) (by decide) (ce' := 0) (sl' := 0) rfl rfl (by decide) (by decide) ?_
    rintro _ h_9 σ_10 m_11 ⟨rfl, rfl⟩
    refine Road.Go.weaken (σ' := σ) m_11 (Nat.le_refl _) (Nat.le_refl _) ?_
    refine Road.if_eq 4 16 bCh1_d4 rfl (fun hc4 => ?_) (fun q => absurd q (by decide))
    refine Road.aloadN 16 bCh1_d16 rfl ?_
    refine Road.getfield 17 bCh1_d17 (wI hw 33 rfl) Via.refl T.2.2.1 ?_
    refine Road.iloadN 20 bCh1_d20 rfl ?_
    refine Road.callS (B' := bUca) 21 (argsL := [(.ref sb), (.int (Nat.toInt32 i))]) (rest := []) 0 bCh1_d21 (wI hw 280 rfl) (wI hw 281 rfl) (wI hw 22 rfl) (wI hw 282 rfl) (by decide) (cUca l Z a0 hw n0 hEW sb ds i h0 σ T.2.2.2.1 T.2.2.2.2.1 hi fm hfm Hf H0 H1 H2) (lenOf bUca_pd rfl) rfl rfl rfl (by decide) (by decide) (ce' := 0) (sl' := 0) rfl rfl (by decide) (by decide) ?_
    rintro _ h_13 σ_14 m_15 ⟨rfl, rfl⟩
    refine Road.Go.weaken (σ' := σ) m_15 (Nat.le_refl _) (Nat.le_refl _) ?_
    exact Road.iret 24 c bCh1_d24 (t := .char) rfl (by simp) (by rw [hcv]; exact Road.nar16 (hcv ▸ T.2.2.2.2.1 _ (List.getElem_mem hi))) (by decide) (by decide) (fun σ' m => ⟨rfl, rfl⟩)
def bAbZ : Road.Bdy := (⟨"java/lang/AbstractStringBuilder", "<init>", "(I)V"⟩, jdk_68_method_2_code, 2, none, { frames := 1, cells := 1, slots := 16, locals := 14 })
theorem bAbZ_d0 : decode bAbZ.bs 0 = .ok (.aload_n 0, 1) := by decide +kernel
theorem bAbZ_d1 : decode bAbZ.bs 1 = .ok (.invokespecial 3, 3) := by decide +kernel
theorem bAbZ_d4 : decode bAbZ.bs 4 = .ok (.getstatic 18, 3) := by decide +kernel
theorem bAbZ_d7 : decode bAbZ.bs 7 = .ok (.ifCond .eq 18, 3) := by decide +kernel
theorem bAbZ_d10 : decode bAbZ.bs 10 = .ok (.aload_n 0, 1) := by decide +kernel
theorem bAbZ_d11 : decode bAbZ.bs 11 = .ok (.iload_n 1, 1) := by decide +kernel
theorem bAbZ_d12 : decode bAbZ.bs 12 = .ok (.newarray .byte, 2) := by decide +kernel
theorem bAbZ_d14 : decode bAbZ.bs 14 = .ok (.putfield 15, 3) := by decide +kernel
theorem bAbZ_d17 : decode bAbZ.bs 17 = .ok (.aload_n 0, 1) := by decide +kernel
theorem bAbZ_d18 : decode bAbZ.bs 18 = .ok (.iconst 0, 1) := by decide +kernel
theorem bAbZ_d19 : decode bAbZ.bs 19 = .ok (.putfield 22, 3) := by decide +kernel
theorem bAbZ_d22 : decode bAbZ.bs 22 = .ok (.goto 16, 3) := by decide +kernel
theorem bAbZ_d25 : decode bAbZ.bs 25 = .ok (.aload_n 0, 1) := by decide +kernel
theorem bAbZ_d26 : decode bAbZ.bs 26 = .ok (.iload_n 1, 1) := by decide +kernel
theorem bAbZ_d27 : decode bAbZ.bs 27 = .ok (.invokestatic 26, 3) := by decide +kernel
theorem bAbZ_d30 : decode bAbZ.bs 30 = .ok (.putfield 15, 3) := by decide +kernel
theorem bAbZ_d33 : decode bAbZ.bs 33 = .ok (.aload_n 0, 1) := by decide +kernel
theorem bAbZ_d34 : decode bAbZ.bs 34 = .ok (.iconst 1, 1) := by decide +kernel
theorem bAbZ_d35 : decode bAbZ.bs 35 = .ok (.putfield 22, 3) := by decide +kernel
theorem bAbZ_d38 : decode bAbZ.bs 38 = .ok (.return_, 1) := by decide +kernel
theorem bAbZ_pd : parseMethodDescriptor "(I)V" = some ⟨[.int], none⟩ := by decide +kernel
theorem bAbZ_pn : plainFor bAbZ.y = true := plainFor_of_name (show plainName "java/lang/AbstractStringBuilder" = true from by first | (simp [plainName, overriddenIn]; done) | decide +kernel)
theorem cAbZ (l : Launch) (Z : State) (a0 : Array Value) (hw : ∀ d ∈ tables_1, d.before a0 Z = true) (n0 : Nat) (hEW : EW Z a0 consts_1) (q : Addr) (h0 : Heap) (σ : Addr → Prop) (E : Exa Z h0 q Road.SB) (Fc : Fld Z h0 q Road.AB "coder" "B" (.int 0)) (Fv : Fld Z h0 q Road.AB "value" "[B" .null) (Fn : Fld Z h0 q Road.AB "count" "I" (.int 0)) (Fy : Fld Z h0 q Road.AB "maybeLatin1" "Z" (.int 0)) (sq : σ q) (cp : Int32) (Hc : Sta Z Z.heap Road.SN "COMPACT_STRINGS" "Z" (.int cp)) (hcp : ¬ cp = 0) :
    Road.Con l Z consts_1 n0 false bAbZ [] σ #[(.ref q), (.int (16 : Int32))] h0 (fun v h2 s2 => v = none ∧ Keep h0 h2 [q] ∧ ∃ b, Road.Sb0 Z h2 q b [] 16 ∧ h0.size ≤ b ∧ s2 b) := by
  refine Road.Con.of bAbZ_pn hEW #[.val (.ref q), .val (.int (16 : Int32))] (fun m => Road.ent (Road.laid1 rfl (Road.laid1 rfl Road.laid0)) (k := 0) rfl rfl) ?_
  intro D hD
  refine Road.aloadN 0 bAbZ_d0 rfl ?_
  refine Road.initObj 1 bAbZ_d1 (wI hw 57 rfl) (wI hw 17 rfl) (wI hw 18 rfl) 0 rfl rfl (by decide) (by decide) ?_
  refine Road.getstatic 4 bAbZ_d4 (wI hw 58 rfl) Via.refl Hc ?_
  refine Road.if_eq 7 25 bAbZ_d7 rfl (fun q => absurd q hcp) (fun hc7 => ?_)
  refine Road.aloadN 10 bAbZ_d10 rfl ?_
  refine Road.iloadN 11 bAbZ_d11 rfl ?_
  refine Road.newarrayE 12 .byte 16 16 "[B" rfl bAbZ_d12 rfl (wI hw 24 rfl) (by decide) (by decide) (by decide) (ce' := 1) (sl' := 16) rfl rfl (by decide) (by decide) ?_
  intro b h_1 σ_2 g_3 K_4 lt_5 m_6 s_7 Ab EB
  have ne_q_b : q ≠ b := Nat.ne_of_lt (Nat.lt_of_lt_of_le E.lt (Nat.le_of_eq g_3.symm))
  replace E := E.keep K_4
  replace Fc := Fc.keep K_4 nin0
  replace Fv := Fv.keep K_4 nin0
  replace Fn := Fn.keep K_4 nin0
  replace Fy := Fy.keep K_4 nin0
  replace sq := m_6 _ sq
  refine Road.putfield 14 bAbZ_d14 (wI hw 59 rfl) Via.refl Fv E (Or.inl (wI hw 60 rfl)) (wI hw 46 rfl) (ty := (.array .byte)) (by decide) rfl rfl sq ?_
  intro h_10 W_8 K_9
  replace Fv := Fv.same W_8
  replace Fc := Fc.other W_8 (Or.inr (slot_ne (Or.inl (wI hw 62 rfl)) (Or.inl (wI hw 60 rfl)) (by decide) (t := .byte) (by decide) (t' := (.array .byte)) (by decide)))
  replace Fn := Fn.other W_8 (Or.inr (slot_ne (Or.inl (wI hw 91 rfl)) (Or.inl (wI hw 60 rfl)) (by decide) (t := .int) (by decide) (t' := (.array .byte)) (by decide)))
  replace Fy := Fy.other W_8 (Or.inr (slot_ne (Or.inl (wI hw 279 rfl)) (Or.inl (wI hw 60 rfl)) (by decide) (t := .boolean) (by decide) (t' := (.array .byte)) (by decide)))
  replace E := E.keep K_9
  replace Ab := Ab.keep K_9 (ninS (Ne.symm ne_q_b) nin0)
  replace EB := EB.keep K_9
  refine Road.aloadN 17 bAbZ_d17 rfl ?_
  refine Road.iconst 18 (0 : Int32) bAbZ_d18 rfl ?_
  refine Road.putfield 19 bAbZ_d19 (wI hw 61 rfl) Via.refl Fc E (Or.inl (wI hw 62 rfl)) (wI hw 46 rfl) (ty := .byte) (by decide) rfl rfl sq ?_
  intro h_13 W_11 K_12
  replace Fc := Fc.same W_11
  replace Fv := Fv.other W_11 (Or.inr (slot_ne (Or.inl (wI hw 60 rfl)) (Or.inl (wI hw 62 rfl)) (by decide) (t := (.array .byte)) (by decide) (t' := .byte) (by decide)))
  replace Fn := Fn.other W_11 (Or.inr (slot_ne (Or.inl (wI hw 91 rfl)) (Or.inl (wI hw 62 rfl)) (by decide) (t := .int) (by decide) (t' := .byte) (by decide)))
  replace Fy := Fy.other W_11 (Or.inr (slot_ne (Or.inl (wI hw 279 rfl)) (Or.inl (wI hw 62 rfl)) (by decide) (t := .boolean) (by decide) (t' := .byte) (by decide)))
  replace E := E.keep K_12
  replace Ab := Ab.keep K_12 (ninS (Ne.symm ne_q_b) nin0)
  replace EB := EB.keep K_12
  refine Road.goto 22 38 bAbZ_d22 rfl ?_
  exact Road.ret 38 bAbZ_d38 rfl (by decide) (by decide) (fun σ' m => ⟨rfl, ((Road.keep_more K_4).trans K_9 (by simp)).trans K_12 (by simp), b, ⟨E, Fc, Fv, Fn, ⟨_, Ab, rfl⟩, by simp, Fy, EB⟩, Nat.le_of_eq g_3.symm, m _ s_7⟩)
def bSbZ : Road.Bdy := (⟨"java/lang/StringBuilder", "<init>", "()V"⟩, jdk_67_method_1_code, 1, none, { frames := 2, cells := 1, slots := 16, locals := 27 })
theorem bSbZ_d0 : decode bSbZ.bs 0 = .ok (.aload_n 0, 1) := by decide +kernel
theorem bSbZ_d1 : decode bSbZ.bs 1 = .ok (.bipush 16, 2) := by decide +kernel
theorem bSbZ_d3 : decode bSbZ.bs 3 = .ok (.invokespecial 1, 3) := by decide +kernel
theorem bSbZ_d6 : decode bSbZ.bs 6 = .ok (.return_, 1) := by decide +kernel
theorem bSbZ_pd : parseMethodDescriptor "()V" = some ⟨[], none⟩ := by decide +kernel
theorem bSbZ_pn : plainFor bSbZ.y = true := plainFor_of_name (show plainName "java/lang/StringBuilder" = true from by first | (simp [plainName, overriddenIn]; done) | decide +kernel)
theorem cSbZ (l : Launch) (Z : State) (a0 : Array Value) (hw : ∀ d ∈ tables_1, d.before a0 Z = true) (n0 : Nat) (hEW : EW Z a0 consts_1) (q : Addr) (h0 : Heap) (σ : Addr → Prop) (E : Exa Z h0 q Road.SB) (Fc : Fld Z h0 q Road.AB "coder" "B" (.int 0)) (Fv : Fld Z h0 q Road.AB "value" "[B" .null) (Fn : Fld Z h0 q Road.AB "count" "I" (.int 0)) (Fy : Fld Z h0 q Road.AB "maybeLatin1" "Z" (.int 0)) (sq : σ q) (cp : Int32) (Hc : Sta Z Z.heap Road.SN "COMPACT_STRINGS" "Z" (.int cp)) (hcp : ¬ cp = 0) :
    Road.Con l Z consts_1 n0 false bSbZ [] σ #[(.ref q)] h0 (fun v h2 s2 => v = none ∧ Keep h0 h2 [q] ∧ ∃ b, Road.Sb0 Z h2 q b [] 16 ∧ h0.size ≤ b ∧ s2 b) := by
  refine Road.Con.of bSbZ_pn hEW #[.val (.ref q)] (fun m => Road.ent (Road.laid1 rfl Road.laid0) (k := 0) rfl rfl) ?_
  intro D hD
  refine Road.aloadN 0 bSbZ_d0 rfl ?_
  refine Road.bipush 1 (16 : Int32) bSbZ_d1 rfl ?_
  refine Road.callI (B' := bAbZ) (a := q) 3 (argsL := [(.int (16 : Int32))]) (rest := []) 0 bSbZ_d3 (wI hw 51 rfl) (wI hw 52 rfl) (wI hw 55 rfl) (wI hw 56 rfl) rfl rfl (by decide) (cAbZ l Z a0 hw n0 hEW q h0 σ E Fc Fv Fn Fy sq cp Hc hcp) (lenOf bAbZ_pd rfl) rfl rfl rfl (by decide) (by decide) (ce' := 1) (sl' := 16) rfl rfl (by decide) (by decide) ?_
  rintro _ h_1 σ_2 m_3 ⟨rfl, K_4, b, S, gb, sb⟩
  exact Road.ret 6 bSbZ_d6 rfl (by decide) (by decide) (fun σ' m => ⟨rfl, K_4, b, S, gb, m _ sb⟩)
def bXpI : Road.Bdy := (⟨"com/example/meerkat/meerkat/metrics/Exposition", "<init>", "()V"⟩, prog_10_method_1_code, 1, none, { frames := 3, cells := 2, slots := 20, locals := 41 })
theorem bXpI_d0 : decode bXpI.bs 0 = .ok (.aload_n 0, 1) := by decide +kernel
theorem bXpI_d1 : decode bXpI.bs 1 = .ok (.invokespecial 1, 3) := by decide +kernel
theorem bXpI_d4 : decode bXpI.bs 4 = .ok (.aload_n 0, 1) := by decide +kernel
theorem bXpI_d5 : decode bXpI.bs 5 = .ok (.new 7, 3) := by decide +kernel
theorem bXpI_d8 : decode bXpI.bs 8 = .ok (.dup, 1) := by decide +kernel
theorem bXpI_d9 : decode bXpI.bs 9 = .ok (.invokespecial 9, 3) := by decide +kernel
theorem bXpI_d12 : decode bXpI.bs 12 = .ok (.putfield 10, 3) := by decide +kernel
theorem bXpI_d15 : decode bXpI.bs 15 = .ok (.return_, 1) := by decide +kernel
theorem bXpI_pd : parseMethodDescriptor "()V" = some ⟨[], none⟩ := by decide +kernel
theorem bXpI_pn : plainFor bXpI.y = true := plainFor_of_name (show plainName "com/example/meerkat/meerkat/metrics/Exposition" = true from by first | (simp [plainName, overriddenIn]; done) | decide +kernel)
theorem cXpI (l : Launch) (Z : State) (a0 : Array Value) (hw : ∀ d ∈ tables_1, d.before a0 Z = true) (n0 : Nat) (hEW : EW Z a0 consts_1) (e : Addr) (h0 : Heap) (σ : Addr → Prop) (E : Exa Z h0 e "com/example/meerkat/meerkat/metrics/Exposition") (F : Fld Z h0 e "com/example/meerkat/meerkat/metrics/Exposition" "text" "Ljava/lang/StringBuilder;" .null) (se : σ e) (cp : Int32) (Hc : Sta Z Z.heap Road.SN "COMPACT_STRINGS" "Z" (.int cp)) (hcp : ¬ cp = 0) :
    Road.Con l Z consts_1 n0 false bXpI [] σ #[(.ref e)] h0 (fun v h2 s2 => v = none ∧ Keep h0 h2 [e] ∧ ∃ q b, Fld Z h2 e "com/example/meerkat/meerkat/metrics/Exposition" "text" "Ljava/lang/StringBuilder;" (.ref q) ∧ Road.Sb0 Z h2 q b [] 16 ∧ h0.size ≤ q ∧ h0.size ≤ b ∧ s2 q ∧ s2 b) := by
  refine Road.Con.of bXpI_pn hEW #[.val (.ref e)] (fun m => Road.ent (Road.laid1 rfl Road.laid0) (k := 0) rfl rfl) ?_
  intro D hD
  refine Road.aloadN 0 bXpI_d0 rfl ?_
  refine Road.initObj 1 bXpI_d1 (wI hw 44 rfl) (wI hw 17 rfl) (wI hw 18 rfl) 0 rfl rfl (by decide) (by decide) ?_
  refine Road.aloadN 4 bXpI_d4 rfl ?_
  refine Road.new 5 "java/lang/StringBuilder" bXpI_d5 (wI hw 45 rfl) (wI hw 46 rfl) (wI hw 47 rfl) (ce' := 1) (sl' := 4) rfl rfl (by decide) (by decide) ?_
  intro q h_1 σ_2 g_3 K_4 lt_5 m_6 s_7 Eq D_8 M_9
  have ne_e_q : e ≠ q := Nat.ne_of_lt (Nat.lt_of_lt_of_le E.lt (Nat.le_of_eq g_3.symm))
  replace E := E.keep K_4
  replace F := F.keep K_4 nin0
  replace se := m_6 _ se
  have Fc := D_8 (Or.inl (wI hw 62 rfl)) (ty := .byte) (by decide)
  have Fv := D_8 (Or.inl (wI hw 60 rfl)) (ty := (.array .byte)) (by decide)
  have Fn := D_8 (Or.inl (wI hw 91 rfl)) (ty := .int) (by decide)
  have Fy := D_8 (Or.inl (wI hw 279 rfl)) (ty := .boolean) (by decide)
  refine Road.dup 8 bXpI_d8 ?_
  refine Road.callI (B' := bSbZ) (a := q) 9 (argsL := []) (rest := [(.ref q), (.ref e)]) 2 bXpI_d9 (wI hw 48 rfl) (wI hw 49 rfl) (wI hw 47 rfl) (wI hw 50 rfl) rfl rfl (by decide) (cSbZ l Z a0 hw n0 hEW q h_1 σ_2 Eq Fc Fv Fn Fy s_7 cp Hc hcp) (lenOf bSbZ_pd rfl) rfl rfl rfl (by decide) (by decide) (ce' := 2) (sl' := 20) rfl rfl (by decide) (by decide) ?_
  rintro _ h_10 σ_11 m_12 ⟨rfl, K_13, b, S, gb, sb⟩
  have ne_e_b : e ≠ b := Nat.ne_of_lt (Nat.lt_of_lt_of_le E.lt gb)
  replace E := E.keep K_13
  replace F := F.keep K_13 (ninS ne_e_q nin0)
  replace se := m_12 _ se
  replace s_7 := m_12 _ s_7
  refine Road.putfield 12 bXpI_d12 (wI hw 63 rfl) Via.refl F E (Or.inr ⟨(wI hw 64 rfl), rfl, rfl⟩) (wI hw 39 rfl) (ty := (.object "java/lang/StringBuilder")) (by decide) rfl rfl se ?_
  intro h_18 W_16 K_17
  replace F := F.same W_16
  replace E := E.keep K_17
  replace S := S.keep K_17 (ninS (Ne.symm ne_e_q) nin0) (ninS (Ne.symm ne_e_b) nin0)
  exact Road.ret 15 bXpI_d15 rfl (by decide) (by decide) (fun σ' m => ⟨rfl, ((Road.keep_more (ws := [e]) K_4).trans K_13 (by intro x hx; cases List.mem_singleton.mp hx; exact Or.inr (Nat.le_of_eq g_3.symm))).trans K_17 (by simp), q, b, F, S, Nat.le_of_eq g_3.symm, Nat.le_trans K_4.1 gb, m _ s_7, m _ sb⟩)
def bSam : Road.Bdy := (⟨"com/example/meerkat/meerkat/metrics/Exposition", "sample", "(Ljava/lang/String;Ljava/lang/String;Ljava/lang/String;)V"⟩, prog_10_method_3_code, 4, none, { frames := 10, cells := 2, slots := 136, locals := 145 })
theorem bSam_d0 : decode bSam.bs 0 = .ok (.aload_n 0, 1) := by decide +kernel
theorem bSam_d1 : decode bSam.bs 1 = .ok (.getfield 10, 3) := by decide +kernel
theorem bSam_d4 : decode bSam.bs 4 = .ok (.aload_n 1, 1) := by decide +kernel
theorem bSam_d5 : decode bSam.bs 5 = .ok (.invokevirtual 18, 3) := by decide +kernel
theorem bSam_d8 : decode bSam.bs 8 = .ok (.pop, 1) := by decide +kernel
theorem bSam_d9 : decode bSam.bs 9 = .ok (.aload_n 2, 1) := by decide +kernel
theorem bSam_d10 : decode bSam.bs 10 = .ok (.invokevirtual 31, 3) := by decide +kernel
theorem bSam_d13 : decode bSam.bs 13 = .ok (.ifCond .ne 22, 3) := by decide +kernel
theorem bSam_d16 : decode bSam.bs 16 = .ok (.aload_n 0, 1) := by decide +kernel
theorem bSam_d17 : decode bSam.bs 17 = .ok (.getfield 10, 3) := by decide +kernel
theorem bSam_d20 : decode bSam.bs 20 = .ok (.bipush 123, 2) := by decide +kernel
theorem bSam_d22 : decode bSam.bs 22 = .ok (.invokevirtual 22, 3) := by decide +kernel
theorem bSam_d25 : decode bSam.bs 25 = .ok (.aload_n 2, 1) := by decide +kernel
theorem bSam_d26 : decode bSam.bs 26 = .ok (.invokevirtual 18, 3) := by decide +kernel
theorem bSam_d29 : decode bSam.bs 29 = .ok (.bipush 125, 2) := by decide +kernel
theorem bSam_d31 : decode bSam.bs 31 = .ok (.invokevirtual 22, 3) := by decide +kernel
theorem bSam_d34 : decode bSam.bs 34 = .ok (.pop, 1) := by decide +kernel
theorem bSam_d35 : decode bSam.bs 35 = .ok (.aload_n 0, 1) := by decide +kernel
theorem bSam_d36 : decode bSam.bs 36 = .ok (.getfield 10, 3) := by decide +kernel
theorem bSam_d39 : decode bSam.bs 39 = .ok (.bipush 32, 2) := by decide +kernel
theorem bSam_d41 : decode bSam.bs 41 = .ok (.invokevirtual 22, 3) := by decide +kernel
theorem bSam_d44 : decode bSam.bs 44 = .ok (.aload_n 3, 1) := by decide +kernel
theorem bSam_d45 : decode bSam.bs 45 = .ok (.invokevirtual 18, 3) := by decide +kernel
theorem bSam_d48 : decode bSam.bs 48 = .ok (.bipush 10, 2) := by decide +kernel
theorem bSam_d50 : decode bSam.bs 50 = .ok (.invokevirtual 22, 3) := by decide +kernel
theorem bSam_d53 : decode bSam.bs 53 = .ok (.pop, 1) := by decide +kernel
theorem bSam_d54 : decode bSam.bs 54 = .ok (.return_, 1) := by decide +kernel
theorem bSam_pd : parseMethodDescriptor "(Ljava/lang/String;Ljava/lang/String;Ljava/lang/String;)V" = some ⟨[(.object "java/lang/String"), (.object "java/lang/String"), (.object "java/lang/String")], none⟩ := by decide +kernel
theorem bSam_pn : plainFor bSam.y = true := plainFor_of_name (show plainName "com/example/meerkat/meerkat/metrics/Exposition" = true from by first | (simp [plainName, overriddenIn]; done) | decide +kernel)
set_option maxHeartbeats 4000000 in
theorem cSam (l : Launch) (Z : State) (a0 : Array Value) (hw : ∀ d ∈ tables_1, d.before a0 Z = true) (n0 : Nat) (hEW : EW Z a0 consts_1) (e q b0 n nd y yd v vd : Addr) (ns ls vs cs : List Int32) (N : Nat) (h0 : Heap) (σ : Addr → Prop) (Fe : Fld Z h0 e "com/example/meerkat/meerkat/metrics/Exposition" "text" "Ljava/lang/StringBuilder;" (.ref q)) (S : Road.Sb0 Z h0 q b0 cs N ∨ Road.Sb1 Z h0 q b0 cs N) (hN : N = 16 ∨ N = 34) (hcs : cs.length ≤ 10) (Tn : Road.StrX Z h0 n nd ns) (hn : ns.length ≤ 2) (Ty : Road.StrX Z h0 y yd ls) (hy : ls.length ≤ 2) (Tv : Road.StrX Z h0 v vd vs) (hv : vs.length ≤ 2) (q_e : e ≠ q) (b_e : e ≠ b0) (q_n : n ≠ q) (b_n : n ≠ b0) (q_nd : nd ≠ q) (b_nd : nd ≠ b0) (q_y : y ≠ q) (b_y : y ≠ b0) (q_yd : yd ≠ q) (b_yd : yd ≠ b0) (q_v : v ≠ q) (b_v : v ≠ b0) (q_vd : vd ≠ q) (b_vd : vd ≠ b0) (sb_ : σ b0) (sq : σ q) (cp : Int32) (Hc : Sta Z Z.heap Road.SN "COMPACT_STRINGS" "Z" (.int cp)) (hcp : ¬ cp = 0) (fm : Value) (hfm : fm.isRef = true) (Hf : Sta Z Z.heap "jdk/internal/util/Preconditions" "SIOOBE_FORMATTER" "Ljava/util/function/BiFunction;" fm) (H0 : Sta Z Z.heap "java/lang/StringUTF16" "$assertionsDisabled" "Z" (.int 1)) (H1 : Sta Z Z.heap "java/lang/StringUTF16" "HI_BYTE_SHIFT" "I" (.int 0)) (H2 : Sta Z Z.heap "java/lang/StringUTF16" "LO_BYTE_SHIFT" "I" (.int 8)) :
    Road.Con l Z consts_1 n0 false bSam [] σ #[(.ref e), (.ref n), (.ref y), (.ref v)] h0 (fun r h2 s2 => r = none ∧ Keep h0 h2 [q, b0] ∧ ∃ d N', (Road.Sb0 Z h2 q d (cs ++ (ns ++ ((if ls = [] then ([] : List Int32) else [123] ++ ls ++ [125]) ++ ([32] ++ (vs ++ [10]))))) N' ∨ Road.Sb1 Z h2 q d (cs ++ (ns ++ ((if ls = [] then ([] : List Int32) else [123] ++ ls ++ [125]) ++ ([32] ++ (vs ++ [10]))))) N') ∧ (N' = 16 ∨ N' = 34) ∧ (d = b0 ∨ h0.size ≤ d) ∧ s2 q ∧ s2 d) := by
  refine Road.Con.of bSam_pn hEW #[.val (.ref e), .val (.ref n), .val (.ref y), .val (.ref v)] (fun m => Road.ent (Road.laid1 rfl (Road.laid1 rfl (Road.laid1 rfl (Road.laid1 rfl Road.laid0)))) (k := 0) rfl rfl) ?_
  intro D hD
  have nb : ∀ b, (b = b0 ∨ h0.size ≤ b) → e ≠ b ∧ n ≠ b ∧ nd ≠ b ∧ y ≠ b ∧ yd ≠ b ∧ v ≠ b ∧ vd ≠ b := by
    intro b gb
    have tn : n < h0.size ∧ nd < h0.size := Tn.elim (fun q => ⟨q.lt, q.ltb⟩) (fun q => ⟨q.lt, q.ltb⟩)
    have ty : y < h0.size ∧ yd < h0.size := Ty.elim (fun q => ⟨q.lt, q.ltb⟩) (fun q => ⟨q.lt, q.ltb⟩)
    have tv : v < h0.size ∧ vd < h0.size := Tv.elim (fun q => ⟨q.lt, q.ltb⟩) (fun q => ⟨q.lt, q.ltb⟩)
    have te := Fe.lt
    rcases gb with rfl | gb
    · exact ⟨b_e, b_n, b_nd, b_y, b_yd, b_v, b_vd⟩
    · exact ⟨Nat.ne_of_lt (Nat.lt_of_lt_of_le te gb), Nat.ne_of_lt (Nat.lt_of_lt_of_le tn.1 gb), Nat.ne_of_lt (Nat.lt_of_lt_of_le tn.2 gb), Nat.ne_of_lt (Nat.lt_of_lt_of_le ty.1 gb), Nat.ne_of_lt (Nat.lt_of_lt_of_le ty.2 gb), Nat.ne_of_lt (Nat.lt_of_lt_of_le tv.1 gb), Nat.ne_of_lt (Nat.lt_of_lt_of_le tv.2 gb)⟩
  obtain ⟨XX, hXX⟩ : ∃ t, t = cs ++ (ns ++ ((if ls = [] then ([] : List Int32) else [123] ++ ls ++ [125]) ++ ([32] ++ (vs ++ [10])))) := ⟨_, rfl⟩
  rw [← hXX]
  have hXl : XX.length ≤ 20 := by rw [hXX]; split <;> simp only [List.length_append, List.length_cons, List.length_nil] <;> omega
  have J54_0_16 : ∀ (h : Heap) (τ : Addr → Prop) (b : Addr) (t : List Int32), Keep h0 h [q, b0] → Road.Sb0 Z h q b t 16 → τ q → τ b → (b = b0 ∨ h0.size ≤ b) → t ++ ([] : List Int32) = XX → Road.Go l Z a0 consts_1 n0 false bSam D (fun r h2 s2 => r = none ∧ Keep h0 h2 [q, b0] ∧ ∃ d N', (Road.Sb0 Z h2 q d XX N' ∨ Road.Sb1 Z h2 q d XX N') ∧ (N' = 16 ∨ N' = 34) ∧ (d = b0 ∨ h0.size ≤ d) ∧ s2 q ∧ s2 d) h τ 0 0 54 #[.val (.ref e), .val (.ref n), .val (.ref y), .val (.ref v)] [] := by
    intro h τ b t K S sq sb gb ht
    have hl := congrArg List.length ht
    simp only [List.length_append, List.length_cons, List.length_nil] at hl
    obtain ⟨ne, nn, nnd, ny, nyd, nv, nvd⟩ := nb b gb
    rw [List.append_nil] at ht
    subst ht
    exact Road.ret 54 bSam_d54 rfl (by decide) (by decide) (fun σ' m => ⟨rfl, K, b, 16, Or.inl S, Or.inl rfl, gb, m _ sq, m _ sb⟩)
  have J54_0_34 : ∀ (h : Heap) (τ : Addr → Prop) (b : Addr) (t : List Int32), Keep h0 h [q, b0] → Road.Sb0 Z h q b t 34 → τ q → τ b → (b = b0 ∨ h0.size ≤ b) → t ++ ([] : List Int32) = XX → Road.Go l Z a0 consts_1 n0 false bSam D (fun r h2 s2 => r = none ∧ Keep h0 h2 [q, b0] ∧ ∃ d N', (Road.Sb0 Z h2 q d XX N' ∨ Road.Sb1 Z h2 q d XX N') ∧ (N' = 16 ∨ N' = 34) ∧ (d = b0 ∨ h0.size ≤ d) ∧ s2 q ∧ s2 d) h τ 1 68 54 #[.val (.ref e), .val (.ref n), .val (.ref y), .val (.ref v)] [] := by
    intro h τ b t K S sq sb gb ht
    have hl := congrArg List.length ht
    simp only [List.length_append, List.length_cons, List.length_nil] at hl
    obtain ⟨ne, nn, nnd, ny, nyd, nv, nvd⟩ := nb b gb
    rw [List.append_nil] at ht
    subst ht
    exact Road.ret 54 bSam_d54 rfl (by decide) (by decide) (fun σ' m => ⟨rfl, K, b, 34, Or.inl S, Or.inr rfl, gb, m _ sq, m _ sb⟩)
  have J54_1_16 : ∀ (h : Heap) (τ : Addr → Prop) (b : Addr) (t : List Int32), Keep h0 h [q, b0] → Road.Sb1 Z h q b t 16 → τ q → τ b → (b = b0 ∨ h0.size ≤ b) → t ++ ([] : List Int32) = XX → Road.Go l Z a0 consts_1 n0 false bSam D (fun r h2 s2 => r = none ∧ Keep h0 h2 [q, b0] ∧ ∃ d N', (Road.Sb0 Z h2 q d XX N' ∨ Road.Sb1 Z h2 q d XX N') ∧ (N' = 16 ∨ N' = 34) ∧ (d = b0 ∨ h0.size ≤ d) ∧ s2 q ∧ s2 d) h τ 1 68 54 #[.val (.ref e), .val (.ref n), .val (.ref y), .val (.ref v)] [] := by
    intro h τ b t K S sq sb gb ht
    have hl := congrArg List.length ht
    simp only [List.length_append, List.length_cons, List.length_nil] at hl
    obtain ⟨ne, nn, nnd, ny, nyd, nv, nvd⟩ := nb b gb
    rw [List.append_nil] at ht
    subst ht
    exact Road.ret 54 bSam_d54 rfl (by decide) (by decide) (fun σ' m => ⟨rfl, K, b, 16, Or.inr S, Or.inl rfl, gb, m _ sq, m _ sb⟩)
  have J54_1_34 : ∀ (h : Heap) (τ : Addr → Prop) (b : Addr) (t : List Int32), Keep h0 h [q, b0] → Road.Sb1 Z h q b t 34 → τ q → τ b → (b = b0 ∨ h0.size ≤ b) → t ++ ([] : List Int32) = XX → Road.Go l Z a0 consts_1 n0 false bSam D (fun r h2 s2 => r = none ∧ Keep h0 h2 [q, b0] ∧ ∃ d N', (Road.Sb0 Z h2 q d XX N' ∨ Road.Sb1 Z h2 q d XX N') ∧ (N' = 16 ∨ N' = 34) ∧ (d = b0 ∨ h0.size ≤ d) ∧ s2 q ∧ s2 d) h τ 2 136 54 #[.val (.ref e), .val (.ref n), .val (.ref y), .val (.ref v)] [] := by
    intro h τ b t K S sq sb gb ht
    have hl := congrArg List.length ht
    simp only [List.length_append, List.length_cons, List.length_nil] at hl
    obtain ⟨ne, nn, nnd, ny, nyd, nv, nvd⟩ := nb b gb
    rw [List.append_nil] at ht
    subst ht
    exact Road.ret 54 bSam_d54 rfl (by decide) (by decide) (fun σ' m => ⟨rfl, K, b, 34, Or.inr S, Or.inr rfl, gb, m _ sq, m _ sb⟩)
  have J48_0_16 : ∀ (h : Heap) (τ : Addr → Prop) (b : Addr) (t : List Int32), Keep h0 h [q, b0] → Road.Sb0 Z h q b t 16 → τ q → τ b → (b = b0 ∨ h0.size ≤ b) → t ++ ([10] : List Int32) = XX → Road.Go l Z a0 consts_1 n0 false bSam D (fun r h2 s2 => r = none ∧ Keep h0 h2 [q, b0] ∧ ∃ d N', (Road.Sb0 Z h2 q d XX N' ∨ Road.Sb1 Z h2 q d XX N') ∧ (N' = 16 ∨ N' = 34) ∧ (d = b0 ∨ h0.size ≤ d) ∧ s2 q ∧ s2 d) h τ 0 0 48 #[.val (.ref e), .val (.ref n), .val (.ref y), .val (.ref v)] [(.ref q)] := by
    intro h τ b t K S sq sb gb ht
    have hl := congrArg List.length ht
    simp only [List.length_append, List.length_cons, List.length_nil] at hl
    obtain ⟨ne, nn, nnd, ny, nyd, nv, nvd⟩ := nb b gb
    refine Road.bipush 48 (10 : Int32) bSam_d48 rfl ?_
    by_cases hm : t.length + 1 ≤ 16
    · skip
      refine Road.callV (B' := bSh00) (a := q) 50 (argsL := [(.int (10 : Int32))]) (rest := []) "java/lang/StringBuilder" 0 bSam_d50 (wI hw 122 rfl) (wI hw 123 rfl) (fun vm hz => Road.notFace_sib (args := #[]) (mv (s := D.s.setVm vm) hz (wI hw 73 rfl)) rfl) (wI hw 125 rfl) (wI hw 124 rfl) (wI hw 47 rfl) (wI hw 126 rfl) (by decide) S.1 (cSh00 l Z a0 hw n0 hEW q b t 16 (10 : Int32) h τ S (by decide) hm sb sq cp Hc hcp fm hfm Hf H0 H1 H2) (lenOf bSh00_pd rfl) rfl rfl rfl (by decide) (by decide) (ce' := 0) (sl' := 0) rfl rfl (by decide) (by decide) ?_
      rintro _ h_1 σ_2 m_3 ⟨rfl, K_4, d, S2, gd, sd⟩
      replace sq := m_3 _ sq
      replace sb := m_3 _ sb
      refine Road.pop 53 bSam_d53 ?_
      exact J54_0_16 h_1 σ_2 d (t ++ [(10 : Int32)]) (K.trans K_4 (by intro z hz; simp only [List.mem_cons, List.not_mem_nil, or_false] at hz; rcases hz with rfl | rfl; exact Or.inl (by simp); exact gb.imp (fun q => by rw [q]; simp) id)) S2 sq sd (gd.elim (fun z => by rw [z]; exact gb) (fun z => Or.inr (Nat.le_trans K.1 z))) (by rw [← ht]; simp only [List.append_assoc, List.cons_append, List.nil_append])
    · skip
      refine Road.callV (B' := bSh01) (a := q) 50 (argsL := [(.int (10 : Int32))]) (rest := []) "java/lang/StringBuilder" 0 bSam_d50 (wI hw 122 rfl) (wI hw 123 rfl) (fun vm hz => Road.notFace_sib (args := #[]) (mv (s := D.s.setVm vm) hz (wI hw 73 rfl)) rfl) (wI hw 125 rfl) (wI hw 124 rfl) (wI hw 47 rfl) (wI hw 126 rfl) (by decide) S.1 (cSh01 l Z a0 hw n0 hEW q b t 16 (10 : Int32) h τ S (by decide) (by omega) (by omega) sb sq cp Hc hcp fm hfm Hf H0 H1 H2) (lenOf bSh01_pd rfl) rfl rfl rfl (by decide) (by decide) (ce' := 1) (sl' := 68) rfl rfl (by decide) (by decide) ?_
      rintro _ h_7 σ_8 m_9 ⟨rfl, K_10, d, S2, gd, sd⟩
      replace sq := m_9 _ sq
      replace sb := m_9 _ sb
      rw [show max (t.length + 1) (2 * 16 + 2) = 34 from by omega] at S2
      refine Road.pop 53 bSam_d53 ?_
      exact J54_0_34 h_7 σ_8 d (t ++ [(10 : Int32)]) (K.trans K_10 (by intro z hz; simp only [List.mem_cons, List.not_mem_nil, or_false] at hz; rcases hz with rfl | rfl; exact Or.inl (by simp); exact gb.imp (fun q => by rw [q]; simp) id)) S2 sq sd (gd.elim (fun z => by rw [z]; exact gb) (fun z => Or.inr (Nat.le_trans K.1 z))) (by rw [← ht]; simp only [List.append_assoc, List.cons_append, List.nil_append])
  have J48_0_34 : ∀ (h : Heap) (τ : Addr → Prop) (b : Addr) (t : List Int32), Keep h0 h [q, b0] → Road.Sb0 Z h q b t 34 → τ q → τ b → (b = b0 ∨ h0.size ≤ b) → t ++ ([10] : List Int32) = XX → Road.Go l Z a0 consts_1 n0 false bSam D (fun r h2 s2 => r = none ∧ Keep h0 h2 [q, b0] ∧ ∃ d N', (Road.Sb0 Z h2 q d XX N' ∨ Road.Sb1 Z h2 q d XX N') ∧ (N' = 16 ∨ N' = 34) ∧ (d = b0 ∨ h0.size ≤ d) ∧ s2 q ∧ s2 d) h τ 1 68 48 #[.val (.ref e), .val (.ref n), .val (.ref y), .val (.ref v)] [(.ref q)] := by
    intro h τ b t K S sq sb gb ht
    have hl := congrArg List.length ht
    simp only [List.length_append, List.length_cons, List.length_nil] at hl
    obtain ⟨ne, nn, nnd, ny, nyd, nv, nvd⟩ := nb b gb
    refine Road.bipush 48 (10 : Int32) bSam_d48 rfl ?_
    refine Road.callV (B' := bSh00) (a := q) 50 (argsL := [(.int (10 : Int32))]) (rest := []) "java/lang/StringBuilder" 0 bSam_d50 (wI hw 122 rfl) (wI hw 123 rfl) (fun vm hz => Road.notFace_sib (args := #[]) (mv (s := D.s.setVm vm) hz (wI hw 73 rfl)) rfl) (wI hw 125 rfl) (wI hw 124 rfl) (wI hw 47 rfl) (wI hw 126 rfl) (by decide) S.1 (cSh00 l Z a0 hw n0 hEW q b t 34 (10 : Int32) h τ S (by decide) (by omega) sb sq cp Hc hcp fm hfm Hf H0 H1 H2) (lenOf bSh00_pd rfl) rfl rfl rfl (by decide) (by decide) (ce' := 1) (sl' := 68) rfl rfl (by decide) (by decide) ?_
    rintro _ h_13 σ_14 m_15 ⟨rfl, K_16, d, S2, gd, sd⟩
    replace sq := m_15 _ sq
    replace sb := m_15 _ sb
    refine Road.pop 53 bSam_d53 ?_
    exact J54_0_34 h_13 σ_14 d (t ++ [(10 : Int32)]) (K.trans K_16 (by intro z hz; simp only [List.mem_cons, List.not_mem_nil, or_false] at hz; rcases hz with rfl | rfl; exact Or.inl (by simp); exact gb.imp (fun q => by rw [q]; simp) id)) S2 sq sd (gd.elim (fun z => by rw [z]; exact gb) (fun z => Or.inr (Nat.le_trans K.1 z))) (by rw [← ht]; simp only [List.append_assoc, List.cons_append, List.nil_append])
  have J48_1_16 : ∀ (h : Heap) (τ : Addr → Prop) (b : Addr) (t : List Int32), Keep h0 h [q, b0] → Road.Sb1 Z h q b t 16 → τ q → τ b → (b = b0 ∨ h0.size ≤ b) → t ++ ([10] : List Int32) = XX → Road.Go l Z a0 consts_1 n0 false bSam D (fun r h2 s2 => r = none ∧ Keep h0 h2 [q, b0] ∧ ∃ d N', (Road.Sb0 Z h2 q d XX N' ∨ Road.Sb1 Z h2 q d XX N') ∧ (N' = 16 ∨ N' = 34) ∧ (d = b0 ∨ h0.size ≤ d) ∧ s2 q ∧ s2 d) h τ 1 68 48 #[.val (.ref e), .val (.ref n), .val (.ref y), .val (.ref v)] [(.ref q)] := by
    intro h τ b t K S sq sb gb ht
    have hl := congrArg List.length ht
    simp only [List.length_append, List.length_cons, List.length_nil] at hl
    obtain ⟨ne, nn, nnd, ny, nyd, nv, nvd⟩ := nb b gb
    refine Road.bipush 48 (10 : Int32) bSam_d48 rfl ?_
    by_cases hm : t.length + 1 ≤ 16
    · skip
      refine Road.callV (B' := bSh10) (a := q) 50 (argsL := [(.int (10 : Int32))]) (rest := []) "java/lang/StringBuilder" 0 bSam_d50 (wI hw 122 rfl) (wI hw 123 rfl) (fun vm hz => Road.notFace_sib (args := #[]) (mv (s := D.s.setVm vm) hz (wI hw 73 rfl)) rfl) (wI hw 125 rfl) (wI hw 124 rfl) (wI hw 47 rfl) (wI hw 126 rfl) (by decide) S.1 (cSh10 l Z a0 hw n0 hEW q b t 16 (10 : Int32) h τ S (by decide) hm sb sq cp Hc hcp fm hfm Hf H0 H1 H2) (lenOf bSh10_pd rfl) rfl rfl rfl (by decide) (by decide) (ce' := 1) (sl' := 68) rfl rfl (by decide) (by decide) ?_
      rintro _ h_19 σ_20 m_21 ⟨rfl, K_22, d, S2, gd, sd⟩
      replace sq := m_21 _ sq
      replace sb := m_21 _ sb
      refine Road.pop 53 bSam_d53 ?_
      exact J54_1_16 h_19 σ_20 d (t ++ [(10 : Int32)]) (K.trans K_22 (by intro z hz; simp only [List.mem_cons, List.not_mem_nil, or_false] at hz; rcases hz with rfl | rfl; exact Or.inl (by simp); exact gb.imp (fun q => by rw [q]; simp) id)) S2 sq sd (gd.elim (fun z => by rw [z]; exact gb) (fun z => Or.inr (Nat.le_trans K.1 z))) (by rw [← ht]; simp only [List.append_assoc, List.cons_append, List.nil_append])
    · skip
      refine Road.callV (B' := bSh11) (a := q) 50 (argsL := [(.int (10 : Int32))]) (rest := []) "java/lang/StringBuilder" 0 bSam_d50 (wI hw 122 rfl) (wI hw 123 rfl) (fun vm hz => Road.notFace_sib (args := #[]) (mv (s := D.s.setVm vm) hz (wI hw 73 rfl)) rfl) (wI hw 125 rfl) (wI hw 124 rfl) (wI hw 47 rfl) (wI hw 126 rfl) (by decide) S.1 (cSh11 l Z a0 hw n0 hEW q b t 16 (10 : Int32) h τ S (by decide) (by omega) (by omega) sb sq cp Hc hcp fm hfm Hf H0 H1 H2) (lenOf bSh11_pd rfl) rfl rfl rfl (by decide) (by decide) (ce' := 2) (sl' := 136) rfl rfl (by decide) (by decide) ?_
      rintro _ h_25 σ_26 m_27 ⟨rfl, K_28, d, S2, gd, sd⟩
      replace sq := m_27 _ sq
      replace sb := m_27 _ sb
      rw [show max (t.length + 1) (2 * 16 + 2) = 34 from by omega] at S2
      refine Road.pop 53 bSam_d53 ?_
      exact J54_1_34 h_25 σ_26 d (t ++ [(10 : Int32)]) (K.trans K_28 (by intro z hz; simp only [List.mem_cons, List.not_mem_nil, or_false] at hz; rcases hz with rfl | rfl; exact Or.inl (by simp); exact gb.imp (fun q => by rw [q]; simp) id)) S2 sq sd (gd.elim (fun z => by rw [z]; exact gb) (fun z => Or.inr (Nat.le_trans K.1 z))) (by rw [← ht]; simp only [List.append_assoc, List.cons_append, List.nil_append])
  have J48_1_34 : ∀ (h : Heap) (τ : Addr → Prop) (b : Addr) (t : List Int32), Keep h0 h [q, b0] → Road.Sb1 Z h q b t 34 → τ q → τ b → (b = b0 ∨ h0.size ≤ b) → t ++ ([10] : List Int32) = XX → Road.Go l Z a0 consts_1 n0 false bSam D (fun r h2 s2 => r = none ∧ Keep h0 h2 [q, b0] ∧ ∃ d N', (Road.Sb0 Z h2 q d XX N' ∨ Road.Sb1 Z h2 q d XX N') ∧ (N' = 16 ∨ N' = 34) ∧ (d = b0 ∨ h0.size ≤ d) ∧ s2 q ∧ s2 d) h τ 2 136 48 #[.val (.ref e), .val (.ref n), .val (.ref y), .val (.ref v)] [(.ref q)] := by
    intro h τ b t K S sq sb gb ht
    have hl := congrArg List.length ht
    simp only [List.length_append, List.length_cons, List.length_nil] at hl
    obtain ⟨ne, nn, nnd, ny, nyd, nv, nvd⟩ := nb b gb
    refine Road.bipush 48 (10 : Int32) bSam_d48 rfl ?_
    refine Road.callV (B' := bSh10) (a := q) 50 (argsL := [(.int (10 : Int32))]) (rest := []) "java/lang/StringBuilder" 0 bSam_d50 (wI hw 122 rfl) (wI hw 123 rfl) (fun vm hz => Road.notFace_sib (args := #[]) (mv (s := D.s.setVm vm) hz (wI hw 73 rfl)) rfl) (wI hw 125 rfl) (wI hw 124 rfl) (wI hw 47 rfl) (wI hw 126 rfl) (by decide) S.1 (cSh10 l Z a0 hw n0 hEW q b t 34 (10 : Int32) h τ S (by decide) (by omega) sb sq cp Hc hcp fm hfm Hf H0 H1 H2) (lenOf bSh10_pd rfl) rfl rfl rfl (by decide) (by decide) (ce' := 2) (sl' := 136) rfl rfl (by decide) (by decide) ?_
    rintro _ h_31 σ_32 m_33 ⟨rfl, K_34, d, S2, gd, sd⟩
    replace sq := m_33 _ sq
    replace sb := m_33 _ sb
    refine Road.pop 53 bSam_d53 ?_
    exact J54_1_34 h_31 σ_32 d (t ++ [(10 : Int32)]) (K.trans K_34 (by intro z hz; simp only [List.mem_cons, List.not_mem_nil, or_false] at hz; rcases hz with rfl | rfl; exact Or.inl (by simp); exact gb.imp (fun q => by rw [q]; simp) id)) S2 sq sd (gd.elim (fun z => by rw [z]; exact gb) (fun z => Or.inr (Nat.le_trans K.1 z))) (by rw [← ht]; simp only [List.append_assoc, List.cons_append, List.nil_append])
  have J44_0_16 : ∀ (h : Heap) (τ : Addr → Prop) (b : Addr) (t : List Int32), Keep h0 h [q, b0] → Road.Sb0 Z h q b t 16 → τ q → τ b → (b = b0 ∨ h0.size ≤ b) → t ++ (vs ++ [10]) = XX → Road.Go l Z a0 consts_1 n0 false bSam D (fun r h2 s2 => r = none ∧ Keep h0 h2 [q, b0] ∧ ∃ d N', (Road.Sb0 Z h2 q d XX N' ∨ Road.Sb1 Z h2 q d XX N') ∧ (N' = 16 ∨ N' = 34) ∧ (d = b0 ∨ h0.size ≤ d) ∧ s2 q ∧ s2 d) h τ 0 0 44 #[.val (.ref e), .val (.ref n), .val (.ref y), .val (.ref v)] [(.ref q)] := by
    intro h τ b t K S sq sb gb ht
    have hl := congrArg List.length ht
    simp only [List.length_append, List.length_cons, List.length_nil] at hl
    obtain ⟨ne, nn, nnd, ny, nyd, nv, nvd⟩ := nb b gb
    refine Road.aloadN 44 bSam_d44 rfl ?_
    rcases Tv with U | U
    · skip
      replace U := U.keep K (ninS q_v (ninS b_v nin0)) (ninS q_vd (ninS b_vd nin0))
      by_cases hm : t.length + vs.length ≤ 16
      · skip
        refine Road.callV (B' := bSs000) (a := q) 45 (argsL := [(.ref v)]) (rest := []) "java/lang/StringBuilder" 0 bSam_d45 (wI hw 70 rfl) (wI hw 71 rfl) (fun vm hz => Road.notFace_sib (args := #[]) (mv (s := D.s.setVm vm) hz (wI hw 73 rfl)) rfl) (wI hw 73 rfl) (wI hw 72 rfl) (wI hw 47 rfl) (wI hw 74 rfl) (by decide) S.1 (cSs000 l Z a0 hw n0 hEW q b t 16 v vd vs h τ S U hm (by omega) q_v q_vd nv nvd sb sq cp Hc hcp fm hfm Hf H0 H1 H2) (lenOf bSs000_pd rfl) rfl rfl rfl (by decide) (by decide) (ce' := 0) (sl' := 0) rfl rfl (by decide) (by decide) ?_
        rintro _ h_37 σ_38 m_39 ⟨rfl, K_40, d, S2, gd, sd⟩
        replace sq := m_39 _ sq
        replace sb := m_39 _ sb
        exact J48_0_16 h_37 σ_38 d (t ++ vs) (K.trans K_40 (by intro z hz; simp only [List.mem_cons, List.not_mem_nil, or_false] at hz; rcases hz with rfl | rfl; exact Or.inl (by simp); exact gb.imp (fun q => by rw [q]; simp) id)) S2 sq sd (gd.elim (fun z => by rw [z]; exact gb) (fun z => Or.inr (Nat.le_trans K.1 z))) (by rw [← ht]; simp only [List.append_assoc, List.cons_append, List.nil_append])
      · skip
        refine Road.callV (B' := bSs001) (a := q) 45 (argsL := [(.ref v)]) (rest := []) "java/lang/StringBuilder" 0 bSam_d45 (wI hw 70 rfl) (wI hw 71 rfl) (fun vm hz => Road.notFace_sib (args := #[]) (mv (s := D.s.setVm vm) hz (wI hw 73 rfl)) rfl) (wI hw 73 rfl) (wI hw 72 rfl) (wI hw 47 rfl) (wI hw 74 rfl) (by decide) S.1 (cSs001 l Z a0 hw n0 hEW q b t 16 v vd vs h τ S U (by omega) (by omega) q_v q_vd nv nvd sb sq cp Hc hcp fm hfm Hf H0 H1 H2) (lenOf bSs001_pd rfl) rfl rfl rfl (by decide) (by decide) (ce' := 1) (sl' := 68) rfl rfl (by decide) (by decide) ?_
        rintro _ h_43 σ_44 m_45 ⟨rfl, K_46, d, S2, gd, sd⟩
        replace sq := m_45 _ sq
        replace sb := m_45 _ sb
        rw [show max (t.length + vs.length) (2 * 16 + 2) = 34 from by omega] at S2
        exact J48_0_34 h_43 σ_44 d (t ++ vs) (K.trans K_46 (by intro z hz; simp only [List.mem_cons, List.not_mem_nil, or_false] at hz; rcases hz with rfl | rfl; exact Or.inl (by simp); exact gb.imp (fun q => by rw [q]; simp) id)) S2 sq sd (gd.elim (fun z => by rw [z]; exact gb) (fun z => Or.inr (Nat.le_trans K.1 z))) (by rw [← ht]; simp only [List.append_assoc, List.cons_append, List.nil_append])
    · skip
      replace U := U.keep K (ninS q_v (ninS b_v nin0)) (ninS q_vd (ninS b_vd nin0))
      by_cases hm : t.length + vs.length ≤ 16
      · skip
        refine Road.callV (B' := bSs010) (a := q) 45 (argsL := [(.ref v)]) (rest := []) "java/lang/StringBuilder" 0 bSam_d45 (wI hw 70 rfl) (wI hw 71 rfl) (fun vm hz => Road.notFace_sib (args := #[]) (mv (s := D.s.setVm vm) hz (wI hw 73 rfl)) rfl) (wI hw 73 rfl) (wI hw 72 rfl) (wI hw 47 rfl) (wI hw 74 rfl) (by decide) S.1 (cSs010 l Z a0 hw n0 hEW q b t 16 v vd vs h τ S U hm (by omega) q_v q_vd nv nvd sb sq cp Hc hcp fm hfm Hf H0 H1 H2) (lenOf bSs010_pd rfl) rfl rfl rfl (by decide) (by decide) (ce' := 1) (sl' := 68) rfl rfl (by decide) (by decide) ?_
        rintro _ h_49 σ_50 m_51 ⟨rfl, K_52, d, S2, gd, sd⟩
        replace sq := m_51 _ sq
        replace sb := m_51 _ sb
        exact J48_1_16 h_49 σ_50 d (t ++ vs) (K.trans K_52 (by intro z hz; simp only [List.mem_cons, List.not_mem_nil, or_false] at hz; rcases hz with rfl | rfl; exact Or.inl (by simp); exact gb.imp (fun q => by rw [q]; simp) id)) S2 sq sd (gd.elim (fun z => by rw [z]; exact gb) (fun z => Or.inr (Nat.le_trans K.1 z))) (by rw [← ht]; simp only [List.append_assoc, List.cons_append, List.nil_append])
      · skip
        refine Road.callV (B' := bSs011) (a := q) 45 (argsL := [(.ref v)]) (rest := []) "java/lang/StringBuilder" 0 bSam_d45 (wI hw 70 rfl) (wI hw 71 rfl) (fun vm hz => Road.notFace_sib (args := #[]) (mv (s := D.s.setVm vm) hz (wI hw 73 rfl)) rfl) (wI hw 73 rfl) (wI hw 72 rfl) (wI hw 47 rfl) (wI hw 74 rfl) (by decide) S.1 (cSs011 l Z a0 hw n0 hEW q b t 16 v vd vs h τ S U (by omega) (by omega) q_v q_vd nv nvd sb sq cp Hc hcp fm hfm Hf H0 H1 H2) (lenOf bSs011_pd rfl) rfl rfl rfl (by decide) (by decide) (ce' := 2) (sl' := 136) rfl rfl (by decide) (by decide) ?_
        rintro _ h_55 σ_56 m_57 ⟨rfl, K_58, d, S2, gd, sd⟩
        replace sq := m_57 _ sq
        replace sb := m_57 _ sb
        rw [show max (t.length + vs.length) (2 * 16 + 2) = 34 from by omega] at S2
        exact J48_1_34 h_55 σ_56 d (t ++ vs) (K.trans K_58 (by intro z hz; simp only [List.mem_cons, List.not_mem_nil, or_false] at hz; rcases hz with rfl | rfl; exact Or.inl (by simp); exact gb.imp (fun q => by rw [q]; simp) id)) S2 sq sd (gd.elim (fun z => by rw [z]; exact gb) (fun z => Or.inr (Nat.le_trans K.1 z))) (by rw [← ht]; simp only [List.append_assoc, List.cons_append, List.nil_append])
  have J44_0_34 : ∀ (h : Heap) (τ : Addr → Prop) (b : Addr) (t : List Int32), Keep h0 h [q, b0] → Road.Sb0 Z h q b t 34 → τ q → τ b → (b = b0 ∨ h0.size ≤ b) → t ++ (vs ++ [10]) = XX → Road.Go l Z a0 consts_1 n0 false bSam D (fun r h2 s2 => r = none ∧ Keep h0 h2 [q, b0] ∧ ∃ d N', (Road.Sb0 Z h2 q d XX N' ∨ Road.Sb1 Z h2 q d XX N') ∧ (N' = 16 ∨ N' = 34) ∧ (d = b0 ∨ h0.size ≤ d) ∧ s2 q ∧ s2 d) h τ 1 68 44 #[.val (.ref e), .val (.ref n), .val (.ref y), .val (.ref v)] [(.ref q)] := by
    intro h τ b t K S sq sb gb ht
    have hl := congrArg List.length ht
    simp only [List.length_append, List.length_cons, List.length_nil] at hl
    obtain ⟨ne, nn, nnd, ny, nyd, nv, nvd⟩ := nb b gb
    refine Road.aloadN 44 bSam_d44 rfl ?_
    rcases Tv with U | U
    · skip
      replace U := U.keep K (ninS q_v (ninS b_v nin0)) (ninS q_vd (ninS b_vd nin0))
      refine Road.callV (B' := bSs000) (a := q) 45 (argsL := [(.ref v)]) (rest := []) "java/lang/StringBuilder" 0 bSam_d45 (wI hw 70 rfl) (wI hw 71 rfl) (fun vm hz => Road.notFace_sib (args := #[]) (mv (s := D.s.setVm vm) hz (wI hw 73 rfl)) rfl) (wI hw 73 rfl) (wI hw 72 rfl) (wI hw 47 rfl) (wI hw 74 rfl) (by decide) S.1 (cSs000 l Z a0 hw n0 hEW q b t 34 v vd vs h τ S U (by omega) (by omega) q_v q_vd nv nvd sb sq cp Hc hcp fm hfm Hf H0 H1 H2) (lenOf bSs000_pd rfl) rfl rfl rfl (by decide) (by decide) (ce' := 1) (sl' := 68) rfl rfl (by decide) (by decide) ?_
      rintro _ h_61 σ_62 m_63 ⟨rfl, K_64, d, S2, gd, sd⟩
      replace sq := m_63 _ sq
      replace sb := m_63 _ sb
      exact J48_0_34 h_61 σ_62 d (t ++ vs) (K.trans K_64 (by intro z hz; simp only [List.mem_cons, List.not_mem_nil, or_false] at hz; rcases hz with rfl | rfl; exact Or.inl (by simp); exact gb.imp (fun q => by rw [q]; simp) id)) S2 sq sd (gd.elim (fun z => by rw [z]; exact gb) (fun z => Or.inr (Nat.le_trans K.1 z))) (by rw [← ht]; simp only [List.append_assoc, List.cons_append, List.nil_append])
    · skip
      replace U := U.keep K (ninS q_v (ninS b_v nin0)) (ninS q_vd (ninS b_vd nin0))
      refine Road.callV (B' := bSs010) (a := q) 45 (argsL := [(.ref v)]) (rest := []) "java/lang/StringBuilder" 0 bSam_d45 (wI hw 70 rfl) (wI hw 71 rfl) (fun vm hz => Road.notFace_sib (args := #[]) (mv (s := D.s.setVm vm) hz (wI hw 73 rfl)) rfl) (wI hw 73 rfl) (wI hw 72 rfl) (wI hw 47 rfl) (wI hw 74 rfl) (by decide) S.1 (cSs010 l Z a0 hw n0 hEW q b t 34 v vd vs h τ S U (by omega) (by omega) q_v q_vd nv nvd sb sq cp Hc hcp fm hfm Hf H0 H1 H2) (lenOf bSs010_pd rfl) rfl rfl rfl (by decide) (by decide) (ce' := 2) (sl' := 136) rfl rfl (by decide) (by decide) ?_
      rintro _ h_67 σ_68 m_69 ⟨rfl, K_70, d, S2, gd, sd⟩
      replace sq := m_69 _ sq
      replace sb := m_69 _ sb
      exact J48_1_34 h_67 σ_68 d (t ++ vs) (K.trans K_70 (by intro z hz; simp only [List.mem_cons, List.not_mem_nil, or_false] at hz; rcases hz with rfl | rfl; exact Or.inl (by simp); exact gb.imp (fun q => by rw [q]; simp) id)) S2 sq sd (gd.elim (fun z => by rw [z]; exact gb) (fun z => Or.inr (Nat.le_trans K.1 z))) (by rw [← ht]; simp only [List.append_assoc, List.cons_append, List.nil_append])
  have J44_1_16 : ∀ (h : Heap) (τ : Addr → Prop) (b : Addr) (t : List Int32), Keep h0 h [q, b0] → Road.Sb1 Z h q b t 16 → τ q → τ b → (b = b0 ∨ h0.size ≤ b) → t ++ (vs ++ [10]) = XX → Road.Go l Z a0 consts_1 n0 false bSam D (fun r h2 s2 => r = none ∧ Keep h0 h2 [q, b0] ∧ ∃ d N', (Road.Sb0 Z h2 q d XX N' ∨ Road.Sb1 Z h2 q d XX N') ∧ (N' = 16 ∨ N' = 34) ∧ (d = b0 ∨ h0.size ≤ d) ∧ s2 q ∧ s2 d) h τ 1 68 44 #[.val (.ref e), .val (.ref n), .val (.ref y), .val (.ref v)] [(.ref q)] := by
    intro h τ b t K S sq sb gb ht
    have hl := congrArg List.length ht
    simp only [List.length_append, List.length_cons, List.length_nil] at hl
    obtain ⟨ne, nn, nnd, ny, nyd, nv, nvd⟩ := nb b gb
    refine Road.aloadN 44 bSam_d44 rfl ?_
    rcases Tv with U | U
    · skip
      replace U := U.keep K (ninS q_v (ninS b_v nin0)) (ninS q_vd (ninS b_vd nin0))
      by_cases hm : t.length + vs.length ≤ 16
      · skip
        refine Road.callV (B' := bSs100) (a := q) 45 (argsL := [(.ref v)]) (rest := []) "java/lang/StringBuilder" 0 bSam_d45 (wI hw 70 rfl) (wI hw 71 rfl) (fun vm hz => Road.notFace_sib (args := #[]) (mv (s := D.s.setVm vm) hz (wI hw 73 rfl)) rfl) (wI hw 73 rfl) (wI hw 72 rfl) (wI hw 47 rfl) (wI hw 74 rfl) (by decide) S.1 (cSs100 l Z a0 hw n0 hEW q b t 16 v vd vs h τ S U hm (by omega) q_v q_vd nv nvd sb sq cp Hc hcp fm hfm Hf H0 H1 H2) (lenOf bSs100_pd rfl) rfl rfl rfl (by decide) (by decide) (ce' := 1) (sl' := 68) rfl rfl (by decide) (by decide) ?_
        rintro _ h_73 σ_74 m_75 ⟨rfl, K_76, d, S2, gd, sd⟩
        replace sq := m_75 _ sq
        replace sb := m_75 _ sb
        exact J48_1_16 h_73 σ_74 d (t ++ vs) (K.trans K_76 (by intro z hz; simp only [List.mem_cons, List.not_mem_nil, or_false] at hz; rcases hz with rfl | rfl; exact Or.inl (by simp); exact gb.imp (fun q => by rw [q]; simp) id)) S2 sq sd (gd.elim (fun z => by rw [z]; exact gb) (fun z => Or.inr (Nat.le_trans K.1 z))) (by rw [← ht]; simp only [List.append_assoc, List.cons_append, List.nil_append])
      · skip
        refine Road.callV (B' := bSs101) (a := q) 45 (argsL := [(.ref v)]) (rest := []) "java/lang/StringBuilder" 0 bSam_d45 (wI hw 70 rfl) (wI hw 71 rfl) (fun vm hz => Road.notFace_sib (args := #[]) (mv (s := D.s.setVm vm) hz (wI hw 73 rfl)) rfl) (wI hw 73 rfl) (wI hw 72 rfl) (wI hw 47 rfl) (wI hw 74 rfl) (by decide) S.1 (cSs101 l Z a0 hw n0 hEW q b t 16 v vd vs h τ S U (by omega) (by omega) q_v q_vd nv nvd sb sq cp Hc hcp fm hfm Hf H0 H1 H2) (lenOf bSs101_pd rfl) rfl rfl rfl (by decide) (by decide) (ce' := 2) (sl' := 136) rfl rfl (by decide) (by decide) ?_
        rintro _ h_79 σ_80 m_81 ⟨rfl, K_82, d, S2, gd, sd⟩
        replace sq := m_81 _ sq
        replace sb := m_81 _ sb
        rw [show max (t.length + vs.length) (2 * 16 + 2) = 34 from by omega] at S2
        exact J48_1_34 h_79 σ_80 d (t ++ vs) (K.trans K_82 (by intro z hz; simp only [List.mem_cons, List.not_mem_nil, or_false] at hz; rcases hz with rfl | rfl; exact Or.inl (by simp); exact gb.imp (fun q => by rw [q]; simp) id)) S2 sq sd (gd.elim (fun z => by rw [z]; exact gb) (fun z => Or.inr (Nat.le_trans K.1 z))) (by rw [← ht]; simp only [List.append_assoc, List.cons_append, List.nil_append])
    · skip
      replace U := U.keep K (ninS q_v (ninS b_v nin0)) (ninS q_vd (ninS b_vd nin0))
      by_cases hm : t.length + vs.length ≤ 16
      · skip
        refine Road.callV (B' := bSs110) (a := q) 45 (argsL := [(.ref v)]) (rest := []) "java/lang/StringBuilder" 0 bSam_d45 (wI hw 70 rfl) (wI hw 71 rfl) (fun vm hz => Road.notFace_sib (args := #[]) (mv (s := D.s.setVm vm) hz (wI hw 73 rfl)) rfl) (wI hw 73 rfl) (wI hw 72 rfl) (wI hw 47 rfl) (wI hw 74 rfl) (by decide) S.1 (cSs110 l Z a0 hw n0 hEW q b t 16 v vd vs h τ S U hm (by omega) q_v q_vd nv nvd sb sq cp Hc hcp fm hfm Hf H0 H1 H2) (lenOf bSs110_pd rfl) rfl rfl rfl (by decide) (by decide) (ce' := 1) (sl' := 68) rfl rfl (by decide) (by decide) ?_
        rintro _ h_85 σ_86 m_87 ⟨rfl, K_88, d, S2, gd, sd⟩
        replace sq := m_87 _ sq
        replace sb := m_87 _ sb
        exact J48_1_16 h_85 σ_86 d (t ++ vs) (K.trans K_88 (by intro z hz; simp only [List.mem_cons, List.not_mem_nil, or_false] at hz; rcases hz with rfl | rfl; exact Or.inl (by simp); exact gb.imp (fun q => by rw [q]; simp) id)) S2 sq sd (gd.elim (fun z => by rw [z]; exact gb) (fun z => Or.inr (Nat.le_trans K.1 z))) (by rw [← ht]; simp only [List.append_assoc, List.cons_append, List.nil_append])
      · skip
        refine Road.callV (B' := bSs111) (a := q) 45 (argsL := [(.ref v)]) (rest := []) "java/lang/StringBuilder" 0 bSam_d45 (wI hw 70 rfl) (wI hw 71 rfl) (fun vm hz => Road.notFace_sib (args := #[]) (mv (s := D.s.setVm vm) hz (wI hw 73 rfl)) rfl) (wI hw 73 rfl) (wI hw 72 rfl) (wI hw 47 rfl) (wI hw 74 rfl) (by decide) S.1 (cSs111 l Z a0 hw n0 hEW q b t 16 v vd vs h τ S U (by omega) (by omega) q_v q_vd nv nvd sb sq cp Hc hcp fm hfm Hf H0 H1 H2) (lenOf bSs111_pd rfl) rfl rfl rfl (by decide) (by decide) (ce' := 2) (sl' := 136) rfl rfl (by decide) (by decide) ?_
        rintro _ h_91 σ_92 m_93 ⟨rfl, K_94, d, S2, gd, sd⟩
        replace sq := m_93 _ sq
        replace sb := m_93 _ sb
        rw [show max (t.length + vs.length) (2 * 16 + 2) = 34 from by omega] at S2
        exact J48_1_34 h_91 σ_92 d (t ++ vs) (K.trans K_94 (by intro z hz; simp only [List.mem_cons, List.not_mem_nil, or_false] at hz; rcases hz with rfl | rfl; exact Or.inl (by simp); exact gb.imp (fun q => by rw [q]; simp) id)) S2 sq sd (gd.elim (fun z => by rw [z]; exact gb) (fun z => Or.inr (Nat.le_trans K.1 z))) (by rw [← ht]; simp only [List.append_assoc, List.cons_append, List.nil_append])
  have J44_1_34 : ∀ (h : Heap) (τ : Addr → Prop) (b : Addr) (t : List Int32), Keep h0 h [q, b0] → Road.Sb1 Z h q b t 34 → τ q → τ b → (b = b0 ∨ h0.size ≤ b) → t ++ (vs ++ [10]) = XX → Road.Go l Z a0 consts_1 n0 false bSam D (fun r h2 s2 => r = none ∧ Keep h0 h2 [q, b0] ∧ ∃ d N', (Road.Sb0 Z h2 q d XX N' ∨ Road.Sb1 Z h2 q d XX N') ∧ (N' = 16 ∨ N' = 34) ∧ (d = b0 ∨ h0.size ≤ d) ∧ s2 q ∧ s2 d) h τ 2 136 44 #[.val (.ref e), .val (.ref n), .val (.ref y), .val (.ref v)] [(.ref q)] := by
    intro h τ b t K S sq sb gb ht
    have hl := congrArg List.length ht
    simp only [List.length_append, List.length_cons, List.length_nil] at hl
    obtain ⟨ne, nn, nnd, ny, nyd, nv, nvd⟩ := nb b gb
    refine Road.aloadN 44 bSam_d44 rfl ?_
    rcases Tv with U | U
    · skip
      replace U := U.keep K (ninS q_v (ninS b_v nin0)) (ninS q_vd (ninS b_vd nin0))
      refine Road.callV (B' := bSs100) (a := q) 45 (argsL := [(.ref v)]) (rest := []) "java/lang/StringBuilder" 0 bSam_d45 (wI hw 70 rfl) (wI hw 71 rfl) (fun vm hz => Road.notFace_sib (args := #[]) (mv (s := D.s.setVm vm) hz (wI hw 73 rfl)) rfl) (wI hw 73 rfl) (wI hw 72 rfl) (wI hw 47 rfl) (wI hw 74 rfl) (by decide) S.1 (cSs100 l Z a0 hw n0 hEW q b t 34 v vd vs h τ S U (by omega) (by omega) q_v q_vd nv nvd sb sq cp Hc hcp fm hfm Hf H0 H1 H2) (lenOf bSs100_pd rfl) rfl rfl rfl (by decide) (by decide) (ce' := 2) (sl' := 136) rfl rfl (by decide) (by decide) ?_
      rintro _ h_97 σ_98 m_99 ⟨rfl, K_100, d, S2, gd, sd⟩
      replace sq := m_99 _ sq
      replace sb := m_99 _ sb
      exact J48_1_34 h_97 σ_98 d (t ++ vs) (K.trans K_100 (by intro z hz; simp only [List.mem_cons, List.not_mem_nil, or_false] at hz; rcases hz with rfl | rfl; exact Or.inl (by simp); exact gb.imp (fun q => by rw [q]; simp) id)) S2 sq sd (gd.elim (fun z => by rw [z]; exact gb) (fun z => Or.inr (Nat.le_trans K.1 z))) (by rw [← ht]; simp only [List.append_assoc, List.cons_append, List.nil_append])
    · skip
      replace U := U.keep K (ninS q_v (ninS b_v nin0)) (ninS q_vd (ninS b_vd nin0))
      refine Road.callV (B' := bSs110) (a := q) 45 (argsL := [(.ref v)]) (rest := []) "java/lang/StringBuilder" 0 bSam_d45 (wI hw 70 rfl) (wI hw 71 rfl) (fun vm hz => Road.notFace_sib (args := #[]) (mv (s := D.s.setVm vm) hz (wI hw 73 rfl)) rfl) (wI hw 73 rfl) (wI hw 72 rfl) (wI hw 47 rfl) (wI hw 74 rfl) (by decide) S.1 (cSs110 l Z a0 hw n0 hEW q b t 34 v vd vs h τ S U (by omega) (by omega) q_v q_vd nv nvd sb sq cp Hc hcp fm hfm Hf H0 H1 H2) (lenOf bSs110_pd rfl) rfl rfl rfl (by decide) (by decide) (ce' := 2) (sl' := 136) rfl rfl (by decide) (by decide) ?_
      rintro _ h_103 σ_104 m_105 ⟨rfl, K_106, d, S2, gd, sd⟩
      replace sq := m_105 _ sq
      replace sb := m_105 _ sb
      exact J48_1_34 h_103 σ_104 d (t ++ vs) (K.trans K_106 (by intro z hz; simp only [List.mem_cons, List.not_mem_nil, or_false] at hz; rcases hz with rfl | rfl; exact Or.inl (by simp); exact gb.imp (fun q => by rw [q]; simp) id)) S2 sq sd (gd.elim (fun z => by rw [z]; exact gb) (fun z => Or.inr (Nat.le_trans K.1 z))) (by rw [← ht]; simp only [List.append_assoc, List.cons_append, List.nil_append])
  have J35_0_16 : ∀ (h : Heap) (τ : Addr → Prop) (b : Addr) (t : List Int32), Keep h0 h [q, b0] → Road.Sb0 Z h q b t 16 → τ q → τ b → (b = b0 ∨ h0.size ≤ b) → t ++ ([32] ++ (vs ++ [10])) = XX → Road.Go l Z a0 consts_1 n0 false bSam D (fun r h2 s2 => r = none ∧ Keep h0 h2 [q, b0] ∧ ∃ d N', (Road.Sb0 Z h2 q d XX N' ∨ Road.Sb1 Z h2 q d XX N') ∧ (N' = 16 ∨ N' = 34) ∧ (d = b0 ∨ h0.size ≤ d) ∧ s2 q ∧ s2 d) h τ 0 0 35 #[.val (.ref e), .val (.ref n), .val (.ref y), .val (.ref v)] [] := by
    intro h τ b t K S sq sb gb ht
    have hl := congrArg List.length ht
    simp only [List.length_append, List.length_cons, List.length_nil] at hl
    obtain ⟨ne, nn, nnd, ny, nyd, nv, nvd⟩ := nb b gb
    refine Road.aloadN 35 bSam_d35 rfl ?_
    refine Road.getfield 36 bSam_d36 (wI hw 63 rfl) Via.refl (Fe.keep K (ninS q_e (ninS b_e nin0))) ?_
    refine Road.bipush 39 (32 : Int32) bSam_d39 rfl ?_
    by_cases hm : t.length + 1 ≤ 16
    · skip
      refine Road.callV (B' := bSh00) (a := q) 41 (argsL := [(.int (32 : Int32))]) (rest := []) "java/lang/StringBuilder" 0 bSam_d41 (wI hw 122 rfl) (wI hw 123 rfl) (fun vm hz => Road.notFace_sib (args := #[]) (mv (s := D.s.setVm vm) hz (wI hw 73 rfl)) rfl) (wI hw 125 rfl) (wI hw 124 rfl) (wI hw 47 rfl) (wI hw 126 rfl) (by decide) S.1 (cSh00 l Z a0 hw n0 hEW q b t 16 (32 : Int32) h τ S (by decide) hm sb sq cp Hc hcp fm hfm Hf H0 H1 H2) (lenOf bSh00_pd rfl) rfl rfl rfl (by decide) (by decide) (ce' := 0) (sl' := 0) rfl rfl (by decide) (by decide) ?_
      rintro _ h_109 σ_110 m_111 ⟨rfl, K_112, d, S2, gd, sd⟩
      replace sq := m_111 _ sq
      replace sb := m_111 _ sb
      exact J44_0_16 h_109 σ_110 d (t ++ [(32 : Int32)]) (K.trans K_112 (by intro z hz; simp only [List.mem_cons, List.not_mem_nil, or_false] at hz; rcases hz with rfl | rfl; exact Or.inl (by simp); exact gb.imp (fun q => by rw [q]; simp) id)) S2 sq sd (gd.elim (fun z => by rw [z]; exact gb) (fun z => Or.inr (Nat.le_trans K.1 z))) (by rw [← ht]; simp only [List.append_assoc, List.cons_append, List.nil_append])
    · skip
      refine Road.callV (B' := bSh01) (a := q) 41 (argsL := [(.int (32 : Int32))]) (rest := []) "java/lang/StringBuilder" 0 bSam_d41 (wI hw 122 rfl) (wI hw 123 rfl) (fun vm hz => Road.notFace_sib (args := #[]) (mv (s := D.s.setVm vm) hz (wI hw 73 rfl)) rfl) (wI hw 125 rfl) (wI hw 124 rfl) (wI hw 47 rfl) (wI hw 126 rfl) (by decide) S.1 (cSh01 l Z a0 hw n0 hEW q b t 16 (32 : Int32) h τ S (by decide) (by omega) (by omega) sb sq cp Hc hcp fm hfm Hf H0 H1 H2) (lenOf bSh01_pd rfl) rfl rfl rfl (by decide) (by decide) (ce' := 1) (sl' := 68) rfl rfl (by decide) (by decide) ?_
      rintro _ h_115 σ_116 m_117 ⟨rfl, K_118, d, S2, gd, sd⟩
      replace sq := m_117 _ sq
      replace sb := m_117 _ sb
      rw [show max (t.length + 1) (2 * 16 + 2) = 34 from by omega] at S2
      exact J44_0_34 h_115 σ_116 d (t ++ [(32 : Int32)]) (K.trans K_118 (by intro z hz; simp only [List.mem_cons, List.not_mem_nil, or_false] at hz; rcases hz with rfl | rfl; exact Or.inl (by simp); exact gb.imp (fun q => by rw [q]; simp) id)) S2 sq sd (gd.elim (fun z => by rw [z]; exact gb) (fun z => Or.inr (Nat.le_trans K.1 z))) (by rw [← ht]; simp only [List.append_assoc, List.cons_append, List.nil_append])
  have J35_0_34 : ∀ (h : Heap) (τ : Addr → Prop) (b : Addr) (t : List Int32), Keep h0 h [q, b0] → Road.Sb0 Z h q b t 34 → τ q → τ b → (b = b0 ∨ h0.size ≤ b) → t ++ ([32] ++ (vs ++ [10])) = XX → Road.Go l Z a0 consts_1 n0 false bSam D (fun r h2 s2 => r = none ∧ Keep h0 h2 [q, b0] ∧ ∃ d N', (Road.Sb0 Z h2 q d XX N' ∨ Road.Sb1 Z h2 q d XX N') ∧ (N' = 16 ∨ N' = 34) ∧ (d = b0 ∨ h0.size ≤ d) ∧ s2 q ∧ s2 d) h τ 1 68 35 #[.val (.ref e), .val (.ref n), .val (.ref y), .val (.ref v)] [] := by
    intro h τ b t K S sq sb gb ht
    have hl := congrArg List.length ht
    simp only [List.length_append, List.length_cons, List.length_nil] at hl
    obtain ⟨ne, nn, nnd, ny, nyd, nv, nvd⟩ := nb b gb
    refine Road.aloadN 35 bSam_d35 rfl ?_
    refine Road.getfield 36 bSam_d36 (wI hw 63 rfl) Via.refl (Fe.keep K (ninS q_e (ninS b_e nin0))) ?_
    refine Road.bipush 39 (32 : Int32) bSam_d39 rfl ?_
    refine Road.callV (B' := bSh00) (a := q) 41 (argsL := [(.int (32 : Int32))]) (rest := []) "java/lang/StringBuilder" 0 bSam_d41 (wI hw 122 rfl) (wI hw 123 rfl) (fun vm hz => Road.notFace_sib (args := #[]) (mv (s := D.s.setVm vm) hz (wI hw 73 rfl)) rfl) (wI hw 125 rfl) (wI hw 124 rfl) (wI hw 47 rfl) (wI hw 126 rfl) (by decide) S.1 (cSh00 l Z a0 hw n0 hEW q b t 34 (32 : Int32) h τ S (by decide) (by omega) sb sq cp Hc hcp fm hfm Hf H0 H1 H2) (lenOf bSh00_pd rfl) rfl rfl rfl (by decide) (by decide) (ce' := 1) (sl' := 68) rfl rfl (by decide) (by decide) ?_
    rintro _ h_121 σ_122 m_123 ⟨rfl, K_124, d, S2, gd, sd⟩
    replace sq := m_123 _ sq
    replace sb := m_123 _ sb
    exact J44_0_34 h_121 σ_122 d (t ++ [(32 : Int32)]) (K.trans K_124 (by intro z hz; simp only [List.mem_cons, List.not_mem_nil, or_false] at hz; rcases hz with rfl | rfl; exact Or.inl (by simp); exact gb.imp (fun q => by rw [q]; simp) id)) S2 sq sd (gd.elim (fun z => by rw [z]; exact gb) (fun z => Or.inr (Nat.le_trans K.1 z))) (by rw [← ht]; simp only [List.append_assoc, List.cons_append, List.nil_append])
  have J35_1_16 : ∀ (h : Heap) (τ : Addr → Prop) (b : Addr) (t : List Int32), Keep h0 h [q, b0] → Road.Sb1 Z h q b t 16 → τ q → τ b → (b = b0 ∨ h0.size ≤ b) → t ++ ([32] ++ (vs ++ [10])) = XX → Road.Go l Z a0 consts_1 n0 false bSam D (fun r h2 s2 => r = none ∧ Keep h0 h2 [q, b0] ∧ ∃ d N', (Road.Sb0 Z h2 q d XX N' ∨ Road.Sb1 Z h2 q d XX N') ∧ (N' = 16 ∨ N' = 34) ∧ (d = b0 ∨ h0.size ≤ d) ∧ s2 q ∧ s2 d) h τ 1 68 35 #[.val (.ref e), .val (.ref n), .val (.ref y), .val (.ref v)] [] := by
    intro h τ b t K S sq sb gb ht
    have hl := congrArg List.length ht
    simp only [List.length_append, List.length_cons, List.length_nil] at hl
    obtain ⟨ne, nn, nnd, ny, nyd, nv, nvd⟩ := nb b gb
    refine Road.aloadN 35 bSam_d35 rfl ?_
    refine Road.getfield 36 bSam_d36 (wI hw 63 rfl) Via.refl (Fe.keep K (ninS q_e (ninS b_e nin0))) ?_
    refine Road.bipush 39 (32 : Int32) bSam_d39 rfl ?_
    by_cases hm : t.length + 1 ≤ 16
    · skip
      refine Road.callV (B' := bSh10) (a := q) 41 (argsL := [(.int (32 : Int32))]) (rest := []) "java/lang/StringBuilder" 0 bSam_d41 (wI hw 122 rfl) (wI hw 123 rfl) (fun vm hz => Road.notFace_sib (args := #[]) (mv (s := D.s.setVm vm) hz (wI hw 73 rfl)) rfl) (wI hw 125 rfl) (wI hw 124 rfl) (wI hw 47 rfl) (wI hw 126 rfl) (by decide) S.1 (cSh10 l Z a0 hw n0 hEW q b t 16 (32 : Int32) h τ S (by decide) hm sb sq cp Hc hcp fm hfm Hf H0 H1 H2) (lenOf bSh10_pd rfl) rfl rfl rfl (by decide) (by decide) (ce' := 1) (sl' := 68) rfl rfl (by decide) (by decide) ?_
      rintro _ h_127 σ_128 m_129 ⟨rfl, K_130, d, S2, gd, sd⟩
      replace sq := m_129 _ sq
      replace sb := m_129 _ sb
      exact J44_1_16 h_127 σ_128 d (t ++ [(32 : Int32)]) (K.trans K_130 (by intro z hz; simp only [List.mem_cons, List.not_mem_nil, or_false] at hz; rcases hz with rfl | rfl; exact Or.inl (by simp); exact gb.imp (fun q => by rw [q]; simp) id)) S2 sq sd (gd.elim (fun z => by rw [z]; exact gb) (fun z => Or.inr (Nat.le_trans K.1 z))) (by rw [← ht]; simp only [List.append_assoc, List.cons_append, List.nil_append])
    · skip
      refine Road.callV (B' := bSh11) (a := q) 41 (argsL := [(.int (32 : Int32))]) (rest := []) "java/lang/StringBuilder" 0 bSam_d41 (wI hw 122 rfl) (wI hw 123 rfl) (fun vm hz => Road.notFace_sib (args := #[]) (mv (s := D.s.setVm vm) hz (wI hw 73 rfl)) rfl) (wI hw 125 rfl) (wI hw 124 rfl) (wI hw 47 rfl) (wI hw 126 rfl) (by decide) S.1 (cSh11 l Z a0 hw n0 hEW q b t 16 (32 : Int32) h τ S (by decide) (by omega) (by omega) sb sq cp Hc hcp fm hfm Hf H0 H1 H2) (lenOf bSh11_pd rfl) rfl rfl rfl (by decide) (by decide) (ce' := 2) (sl' := 136) rfl rfl (by decide) (by decide) ?_
      rintro _ h_133 σ_134 m_135 ⟨rfl, K_136, d, S2, gd, sd⟩
      replace sq := m_135 _ sq
      replace sb := m_135 _ sb
      rw [show max (t.length + 1) (2 * 16 + 2) = 34 from by omega] at S2
      exact J44_1_34 h_133 σ_134 d (t ++ [(32 : Int32)]) (K.trans K_136 (by intro z hz; simp only [List.mem_cons, List.not_mem_nil, or_false] at hz; rcases hz with rfl | rfl; exact Or.inl (by simp); exact gb.imp (fun q => by rw [q]; simp) id)) S2 sq sd (gd.elim (fun z => by rw [z]; exact gb) (fun z => Or.inr (Nat.le_trans K.1 z))) (by rw [← ht]; simp only [List.append_assoc, List.cons_append, List.nil_append])
  have J35_1_34 : ∀ (h : Heap) (τ : Addr → Prop) (b : Addr) (t : List Int32), Keep h0 h [q, b0] → Road.Sb1 Z h q b t 34 → τ q → τ b → (b = b0 ∨ h0.size ≤ b) → t ++ ([32] ++ (vs ++ [10])) = XX → Road.Go l Z a0 consts_1 n0 false bSam D (fun r h2 s2 => r = none ∧ Keep h0 h2 [q, b0] ∧ ∃ d N', (Road.Sb0 Z h2 q d XX N' ∨ Road.Sb1 Z h2 q d XX N') ∧ (N' = 16 ∨ N' = 34) ∧ (d = b0 ∨ h0.size ≤ d) ∧ s2 q ∧ s2 d) h τ 2 136 35 #[.val (.ref e), .val (.ref n), .val (.ref y), .val (.ref v)] [] := by
    intro h τ b t K S sq sb gb ht
    have hl := congrArg List.length ht
    simp only [List.length_append, List.length_cons, List.length_nil] at hl
    obtain ⟨ne, nn, nnd, ny, nyd, nv, nvd⟩ := nb b gb
    refine Road.aloadN 35 bSam_d35 rfl ?_
    refine Road.getfield 36 bSam_d36 (wI hw 63 rfl) Via.refl (Fe.keep K (ninS q_e (ninS b_e nin0))) ?_
    refine Road.bipush 39 (32 : Int32) bSam_d39 rfl ?_
    refine Road.callV (B' := bSh10) (a := q) 41 (argsL := [(.int (32 : Int32))]) (rest := []) "java/lang/StringBuilder" 0 bSam_d41 (wI hw 122 rfl) (wI hw 123 rfl) (fun vm hz => Road.notFace_sib (args := #[]) (mv (s := D.s.setVm vm) hz (wI hw 73 rfl)) rfl) (wI hw 125 rfl) (wI hw 124 rfl) (wI hw 47 rfl) (wI hw 126 rfl) (by decide) S.1 (cSh10 l Z a0 hw n0 hEW q b t 34 (32 : Int32) h τ S (by decide) (by omega) sb sq cp Hc hcp fm hfm Hf H0 H1 H2) (lenOf bSh10_pd rfl) rfl rfl rfl (by decide) (by decide) (ce' := 2) (sl' := 136) rfl rfl (by decide) (by decide) ?_
    rintro _ h_139 σ_140 m_141 ⟨rfl, K_142, d, S2, gd, sd⟩
    replace sq := m_141 _ sq
    replace sb := m_141 _ sb
    exact J44_1_34 h_139 σ_140 d (t ++ [(32 : Int32)]) (K.trans K_142 (by intro z hz; simp only [List.mem_cons, List.not_mem_nil, or_false] at hz; rcases hz with rfl | rfl; exact Or.inl (by simp); exact gb.imp (fun q => by rw [q]; simp) id)) S2 sq sd (gd.elim (fun z => by rw [z]; exact gb) (fun z => Or.inr (Nat.le_trans K.1 z))) (by rw [← ht]; simp only [List.append_assoc, List.cons_append, List.nil_append])
  have J29_0_16 : ∀ (h : Heap) (τ : Addr → Prop) (b : Addr) (t : List Int32), Keep h0 h [q, b0] → Road.Sb0 Z h q b t 16 → τ q → τ b → (b = b0 ∨ h0.size ≤ b) → t ++ ([125] ++ ([32] ++ (vs ++ [10]))) = XX → Road.Go l Z a0 consts_1 n0 false bSam D (fun r h2 s2 => r = none ∧ Keep h0 h2 [q, b0] ∧ ∃ d N', (Road.Sb0 Z h2 q d XX N' ∨ Road.Sb1 Z h2 q d XX N') ∧ (N' = 16 ∨ N' = 34) ∧ (d = b0 ∨ h0.size ≤ d) ∧ s2 q ∧ s2 d) h τ 0 0 29 #[.val (.ref e), .val (.ref n), .val (.ref y), .val (.ref v)] [(.ref q)] := by
    intro h τ b t K S sq sb gb ht
    have hl := congrArg List.length ht
    simp only [List.length_append, List.length_cons, List.length_nil] at hl
    obtain ⟨ne, nn, nnd, ny, nyd, nv, nvd⟩ := nb b gb
    refine Road.bipush 29 (125 : Int32) bSam_d29 rfl ?_
    by_cases hm : t.length + 1 ≤ 16
    · skip
      refine Road.callV (B' := bSh00) (a := q) 31 (argsL := [(.int (125 : Int32))]) (rest := []) "java/lang/StringBuilder" 0 bSam_d31 (wI hw 122 rfl) (wI hw 123 rfl) (fun vm hz => Road.notFace_sib (args := #[]) (mv (s := D.s.setVm vm) hz (wI hw 73 rfl)) rfl) (wI hw 125 rfl) (wI hw 124 rfl) (wI hw 47 rfl) (wI hw 126 rfl) (by decide) S.1 (cSh00 l Z a0 hw n0 hEW q b t 16 (125 : Int32) h τ S (by decide) hm sb sq cp Hc hcp fm hfm Hf H0 H1 H2) (lenOf bSh00_pd rfl) rfl rfl rfl (by decide) (by decide) (ce' := 0) (sl' := 0) rfl rfl (by decide) (by decide) ?_
      rintro _ h_145 σ_146 m_147 ⟨rfl, K_148, d, S2, gd, sd⟩
      replace sq := m_147 _ sq
      replace sb := m_147 _ sb
      refine Road.pop 34 bSam_d34 ?_
      exact J35_0_16 h_145 σ_146 d (t ++ [(125 : Int32)]) (K.trans K_148 (by intro z hz; simp only [List.mem_cons, List.not_mem_nil, or_false] at hz; rcases hz with rfl | rfl; exact Or.inl (by simp); exact gb.imp (fun q => by rw [q]; simp) id)) S2 sq sd (gd.elim (fun z => by rw [z]; exact gb) (fun z => Or.inr (Nat.le_trans K.1 z))) (by rw [← ht]; simp only [List.append_assoc, List.cons_append, List.nil_append])
    · skip
      refine Road.callV (B' := bSh01) (a := q) 31 (argsL := [(.int (125 : Int32))]) (rest := []) "java/lang/StringBuilder" 0 bSam_d31 (wI hw 122 rfl) (wI hw 123 rfl) (fun vm hz => Road.notFace_sib (args := #[]) (mv (s := D.s.setVm vm) hz (wI hw 73 rfl)) rfl) (wI hw 125 rfl) (wI hw 124 rfl) (wI hw 47 rfl) (wI hw 126 rfl) (by decide) S.1 (cSh01 l Z a0 hw n0 hEW q b t 16 (125 : Int32) h τ S (by decide) (by omega) (by omega) sb sq cp Hc hcp fm hfm Hf H0 H1 H2) (lenOf bSh01_pd rfl) rfl rfl rfl (by decide) (by decide) (ce' := 1) (sl' := 68) rfl rfl (by decide) (by decide) ?_
      rintro _ h_151 σ_152 m_153 ⟨rfl, K_154, d, S2, gd, sd⟩
      replace sq := m_153 _ sq
      replace sb := m_153 _ sb
      rw [show max (t.length + 1) (2 * 16 + 2) = 34 from by omega] at S2
      refine Road.pop 34 bSam_d34 ?_
      exact J35_0_34 h_151 σ_152 d (t ++ [(125 : Int32)]) (K.trans K_154 (by intro z hz; simp only [List.mem_cons, List.not_mem_nil, or_false] at hz; rcases hz with rfl | rfl; exact Or.inl (by simp); exact gb.imp (fun q => by rw [q]; simp) id)) S2 sq sd (gd.elim (fun z => by rw [z]; exact gb) (fun z => Or.inr (Nat.le_trans K.1 z))) (by rw [← ht]; simp only [List.append_assoc, List.cons_append, List.nil_append])
  have J29_0_34 : ∀ (h : Heap) (τ : Addr → Prop) (b : Addr) (t : List Int32), Keep h0 h [q, b0] → Road.Sb0 Z h q b t 34 → τ q → τ b → (b = b0 ∨ h0.size ≤ b) → t ++ ([125] ++ ([32] ++ (vs ++ [10]))) = XX → Road.Go l Z a0 consts_1 n0 false bSam D (fun r h2 s2 => r = none ∧ Keep h0 h2 [q, b0] ∧ ∃ d N', (Road.Sb0 Z h2 q d XX N' ∨ Road.Sb1 Z h2 q d XX N') ∧ (N' = 16 ∨ N' = 34) ∧ (d = b0 ∨ h0.size ≤ d) ∧ s2 q ∧ s2 d) h τ 1 68 29 #[.val (.ref e), .val (.ref n), .val (.ref y), .val (.ref v)] [(.ref q)] := by
    intro h τ b t K S sq sb gb ht
    have hl := congrArg List.length ht
    simp only [List.length_append, List.length_cons, List.length_nil] at hl
    obtain ⟨ne, nn, nnd, ny, nyd, nv, nvd⟩ := nb b gb
    refine Road.bipush 29 (125 : Int32) bSam_d29 rfl ?_
    refine Road.callV (B' := bSh00) (a := q) 31 (argsL := [(.int (125 : Int32))]) (rest := []) "java/lang/StringBuilder" 0 bSam_d31 (wI hw 122 rfl) (wI hw 123 rfl) (fun vm hz => Road.notFace_sib (args := #[]) (mv (s := D.s.setVm vm) hz (wI hw 73 rfl)) rfl) (wI hw 125 rfl) (wI hw 124 rfl) (wI hw 47 rfl) (wI hw 126 rfl) (by decide) S.1 (cSh00 l Z a0 hw n0 hEW q b t 34 (125 : Int32) h τ S (by decide) (by omega) sb sq cp Hc hcp fm hfm Hf H0 H1 H2) (lenOf bSh00_pd rfl) rfl rfl rfl (by decide) (by decide) (ce' := 1) (sl' := 68) rfl rfl (by decide) (by decide) ?_
    rintro _ h_157 σ_158 m_159 ⟨rfl, K_160, d, S2, gd, sd⟩
    replace sq := m_159 _ sq
    replace sb := m_159 _ sb
    refine Road.pop 34 bSam_d34 ?_
    exact J35_0_34 h_157 σ_158 d (t ++ [(125 : Int32)]) (K.trans K_160 (by intro z hz; simp only [List.mem_cons, List.not_mem_nil, or_false] at hz; rcases hz with rfl | rfl; exact Or.inl (by simp); exact gb.imp (fun q => by rw [q]; simp) id)) S2 sq sd (gd.elim (fun z => by rw [z]; exact gb) (fun z => Or.inr (Nat.le_trans K.1 z))) (by rw [← ht]; simp only [List.append_assoc, List.cons_append, List.nil_append])
  have J29_1_16 : ∀ (h : Heap) (τ : Addr → Prop) (b : Addr) (t : List Int32), Keep h0 h [q, b0] → Road.Sb1 Z h q b t 16 → τ q → τ b → (b = b0 ∨ h0.size ≤ b) → t ++ ([125] ++ ([32] ++ (vs ++ [10]))) = XX → Road.Go l Z a0 consts_1 n0 false bSam D (fun r h2 s2 => r = none ∧ Keep h0 h2 [q, b0] ∧ ∃ d N', (Road.Sb0 Z h2 q d XX N' ∨ Road.Sb1 Z h2 q d XX N') ∧ (N' = 16 ∨ N' = 34) ∧ (d = b0 ∨ h0.size ≤ d) ∧ s2 q ∧ s2 d) h τ 1 68 29 #[.val (.ref e), .val (.ref n), .val (.ref y), .val (.ref v)] [(.ref q)] := by
    intro h τ b t K S sq sb gb ht
    have hl := congrArg List.length ht
    simp only [List.length_append, List.length_cons, List.length_nil] at hl
    obtain ⟨ne, nn, nnd, ny, nyd, nv, nvd⟩ := nb b gb
    refine Road.bipush 29 (125 : Int32) bSam_d29 rfl ?_
    by_cases hm : t.length + 1 ≤ 16
    · skip
      refine Road.callV (B' := bSh10) (a := q) 31 (argsL := [(.int (125 : Int32))]) (rest := []) "java/lang/StringBuilder" 0 bSam_d31 (wI hw 122 rfl) (wI hw 123 rfl) (fun vm hz => Road.notFace_sib (args := #[]) (mv (s := D.s.setVm vm) hz (wI hw 73 rfl)) rfl) (wI hw 125 rfl) (wI hw 124 rfl) (wI hw 47 rfl) (wI hw 126 rfl) (by decide) S.1 (cSh10 l Z a0 hw n0 hEW q b t 16 (125 : Int32) h τ S (by decide) hm sb sq cp Hc hcp fm hfm Hf H0 H1 H2) (lenOf bSh10_pd rfl) rfl rfl rfl (by decide) (by decide) (ce' := 1) (sl' := 68) rfl rfl (by decide) (by decide) ?_
      rintro _ h_163 σ_164 m_165 ⟨rfl, K_166, d, S2, gd, sd⟩
      replace sq := m_165 _ sq
      replace sb := m_165 _ sb
      refine Road.pop 34 bSam_d34 ?_
      exact J35_1_16 h_163 σ_164 d (t ++ [(125 : Int32)]) (K.trans K_166 (by intro z hz; simp only [List.mem_cons, List.not_mem_nil, or_false] at hz; rcases hz with rfl | rfl; exact Or.inl (by simp); exact gb.imp (fun q => by rw [q]; simp) id)) S2 sq sd (gd.elim (fun z => by rw [z]; exact gb) (fun z => Or.inr (Nat.le_trans K.1 z))) (by rw [← ht]; simp only [List.append_assoc, List.cons_append, List.nil_append])
    · skip
      refine Road.callV (B' := bSh11) (a := q) 31 (argsL := [(.int (125 : Int32))]) (rest := []) "java/lang/StringBuilder" 0 bSam_d31 (wI hw 122 rfl) (wI hw 123 rfl) (fun vm hz => Road.notFace_sib (args := #[]) (mv (s := D.s.setVm vm) hz (wI hw 73 rfl)) rfl) (wI hw 125 rfl) (wI hw 124 rfl) (wI hw 47 rfl) (wI hw 126 rfl) (by decide) S.1 (cSh11 l Z a0 hw n0 hEW q b t 16 (125 : Int32) h τ S (by decide) (by omega) (by omega) sb sq cp Hc hcp fm hfm Hf H0 H1 H2) (lenOf bSh11_pd rfl) rfl rfl rfl (by decide) (by decide) (ce' := 2) (sl' := 136) rfl rfl (by decide) (by decide) ?_
      rintro _ h_169 σ_170 m_171 ⟨rfl, K_172, d, S2, gd, sd⟩
      replace sq := m_171 _ sq
      replace sb := m_171 _ sb
      rw [show max (t.length + 1) (2 * 16 + 2) = 34 from by omega] at S2
      refine Road.pop 34 bSam_d34 ?_
      exact J35_1_34 h_169 σ_170 d (t ++ [(125 : Int32)]) (K.trans K_172 (by intro z hz; simp only [List.mem_cons, List.not_mem_nil, or_false] at hz; rcases hz with rfl | rfl; exact Or.inl (by simp); exact gb.imp (fun q => by rw [q]; simp) id)) S2 sq sd (gd.elim (fun z => by rw [z]; exact gb) (fun z => Or.inr (Nat.le_trans K.1 z))) (by rw [← ht]; simp only [List.append_assoc, List.cons_append, List.nil_append])
  have J29_1_34 : ∀ (h : Heap) (τ : Addr → Prop) (b : Addr) (t : List Int32), Keep h0 h [q, b0] → Road.Sb1 Z h q b t 34 → τ q → τ b → (b = b0 ∨ h0.size ≤ b) → t ++ ([125] ++ ([32] ++ (vs ++ [10]))) = XX → Road.Go l Z a0 consts_1 n0 false bSam D (fun r h2 s2 => r = none ∧ Keep h0 h2 [q, b0] ∧ ∃ d N', (Road.Sb0 Z h2 q d XX N' ∨ Road.Sb1 Z h2 q d XX N') ∧ (N' = 16 ∨ N' = 34) ∧ (d = b0 ∨ h0.size ≤ d) ∧ s2 q ∧ s2 d) h τ 2 136 29 #[.val (.ref e), .val (.ref n), .val (.ref y), .val (.ref v)] [(.ref q)] := by
    intro h τ b t K S sq sb gb ht
    have hl := congrArg List.length ht
    simp only [List.length_append, List.length_cons, List.length_nil] at hl
    obtain ⟨ne, nn, nnd, ny, nyd, nv, nvd⟩ := nb b gb
    refine Road.bipush 29 (125 : Int32) bSam_d29 rfl ?_
    refine Road.callV (B' := bSh10) (a := q) 31 (argsL := [(.int (125 : Int32))]) (rest := []) "java/lang/StringBuilder" 0 bSam_d31 (wI hw 122 rfl) (wI hw 123 rfl) (fun vm hz => Road.notFace_sib (args := #[]) (mv (s := D.s.setVm vm) hz (wI hw 73 rfl)) rfl) (wI hw 125 rfl) (wI hw 124 rfl) (wI hw 47 rfl) (wI hw 126 rfl) (by decide) S.1 (cSh10 l Z a0 hw n0 hEW q b t 34 (125 : Int32) h τ S (by decide) (by omega) sb sq cp Hc hcp fm hfm Hf H0 H1 H2) (lenOf bSh10_pd rfl) rfl rfl rfl (by decide) (by decide) (ce' := 2) (sl' := 136) rfl rfl (by decide) (by decide) ?_
    rintro _ h_175 σ_176 m_177 ⟨rfl, K_178, d, S2, gd, sd⟩
    replace sq := m_177 _ sq
    replace sb := m_177 _ sb
    refine Road.pop 34 bSam_d34 ?_
    exact J35_1_34 h_175 σ_176 d (t ++ [(125 : Int32)]) (K.trans K_178 (by intro z hz; simp only [List.mem_cons, List.not_mem_nil, or_false] at hz; rcases hz with rfl | rfl; exact Or.inl (by simp); exact gb.imp (fun q => by rw [q]; simp) id)) S2 sq sd (gd.elim (fun z => by rw [z]; exact gb) (fun z => Or.inr (Nat.le_trans K.1 z))) (by rw [← ht]; simp only [List.append_assoc, List.cons_append, List.nil_append])
  have J25_0_16 : ∀ (h : Heap) (τ : Addr → Prop) (b : Addr) (t : List Int32), Keep h0 h [q, b0] → Road.Sb0 Z h q b t 16 → τ q → τ b → (b = b0 ∨ h0.size ≤ b) → t ++ (ls ++ ([125] ++ ([32] ++ (vs ++ [10])))) = XX → Road.Go l Z a0 consts_1 n0 false bSam D (fun r h2 s2 => r = none ∧ Keep h0 h2 [q, b0] ∧ ∃ d N', (Road.Sb0 Z h2 q d XX N' ∨ Road.Sb1 Z h2 q d XX N') ∧ (N' = 16 ∨ N' = 34) ∧ (d = b0 ∨ h0.size ≤ d) ∧ s2 q ∧ s2 d) h τ 0 0 25 #[.val (.ref e), .val (.ref n), .val (.ref y), .val (.ref v)] [(.ref q)] := by
    intro h τ b t K S sq sb gb ht
    have hl := congrArg List.length ht
    simp only [List.length_append, List.length_cons, List.length_nil] at hl
    obtain ⟨ne, nn, nnd, ny, nyd, nv, nvd⟩ := nb b gb
    refine Road.aloadN 25 bSam_d25 rfl ?_
    rcases Ty with U | U
    · skip
      replace U := U.keep K (ninS q_y (ninS b_y nin0)) (ninS q_yd (ninS b_yd nin0))
      by_cases hm : t.length + ls.length ≤ 16
      · skip
        refine Road.callV (B' := bSs000) (a := q) 26 (argsL := [(.ref y)]) (rest := []) "java/lang/StringBuilder" 0 bSam_d26 (wI hw 70 rfl) (wI hw 71 rfl) (fun vm hz => Road.notFace_sib (args := #[]) (mv (s := D.s.setVm vm) hz (wI hw 73 rfl)) rfl) (wI hw 73 rfl) (wI hw 72 rfl) (wI hw 47 rfl) (wI hw 74 rfl) (by decide) S.1 (cSs000 l Z a0 hw n0 hEW q b t 16 y yd ls h τ S U hm (by omega) q_y q_yd ny nyd sb sq cp Hc hcp fm hfm Hf H0 H1 H2) (lenOf bSs000_pd rfl) rfl rfl rfl (by decide) (by decide) (ce' := 0) (sl' := 0) rfl rfl (by decide) (by decide) ?_
        rintro _ h_181 σ_182 m_183 ⟨rfl, K_184, d, S2, gd, sd⟩
        replace sq := m_183 _ sq
        replace sb := m_183 _ sb
        exact J29_0_16 h_181 σ_182 d (t ++ ls) (K.trans K_184 (by intro z hz; simp only [List.mem_cons, List.not_mem_nil, or_false] at hz; rcases hz with rfl | rfl; exact Or.inl (by simp); exact gb.imp (fun q => by rw [q]; simp) id)) S2 sq sd (gd.elim (fun z => by rw [z]; exact gb) (fun z => Or.inr (Nat.le_trans K.1 z))) (by rw [← ht]; simp only [List.append_assoc, List.cons_append, List.nil_append])
      · skip
        refine Road.callV (B' := bSs001) (a := q) 26 (argsL := [(.ref y)]) (rest := []) "java/lang/StringBuilder" 0 bSam_d26 (wI hw 70 rfl) (wI hw 71 rfl) (fun vm hz => Road.notFace_sib (args := #[]) (mv (s := D.s.setVm vm) hz (wI hw 73 rfl)) rfl) (wI hw 73 rfl) (wI hw 72 rfl) (wI hw 47 rfl) (wI hw 74 rfl) (by decide) S.1 (cSs001 l Z a0 hw n0 hEW q b t 16 y yd ls h τ S U (by omega) (by omega) q_y q_yd ny nyd sb sq cp Hc hcp fm hfm Hf H0 H1 H2) (lenOf bSs001_pd rfl) rfl rfl rfl (by decide) (by decide) (ce' := 1) (sl' := 68) rfl rfl (by decide) (by decide) ?_
        rintro _ h_187 σ_188 m_189 ⟨rfl, K_190, d, S2, gd, sd⟩
        replace sq := m_189 _ sq
        replace sb := m_189 _ sb
        rw [show max (t.length + ls.length) (2 * 16 + 2) = 34 from by omega] at S2
        exact J29_0_34 h_187 σ_188 d (t ++ ls) (K.trans K_190 (by intro z hz; simp only [List.mem_cons, List.not_mem_nil, or_false] at hz; rcases hz with rfl | rfl; exact Or.inl (by simp); exact gb.imp (fun q => by rw [q]; simp) id)) S2 sq sd (gd.elim (fun z => by rw [z]; exact gb) (fun z => Or.inr (Nat.le_trans K.1 z))) (by rw [← ht]; simp only [List.append_assoc, List.cons_append, List.nil_append])
    · skip
      replace U := U.keep K (ninS q_y (ninS b_y nin0)) (ninS q_yd (ninS b_yd nin0))
      by_cases hm : t.length + ls.length ≤ 16
      · skip
        refine Road.callV (B' := bSs010) (a := q) 26 (argsL := [(.ref y)]) (rest := []) "java/lang/StringBuilder" 0 bSam_d26 (wI hw 70 rfl) (wI hw 71 rfl) (fun vm hz => Road.notFace_sib (args := #[]) (mv (s := D.s.setVm vm) hz (wI hw 73 rfl)) rfl) (wI hw 73 rfl) (wI hw 72 rfl) (wI hw 47 rfl) (wI hw 74 rfl) (by decide) S.1 (cSs010 l Z a0 hw n0 hEW q b t 16 y yd ls h τ S U hm (by omega) q_y q_yd ny nyd sb sq cp Hc hcp fm hfm Hf H0 H1 H2) (lenOf bSs010_pd rfl) rfl rfl rfl (by decide) (by decide) (ce' := 1) (sl' := 68) rfl rfl (by decide) (by decide) ?_
        rintro _ h_193 σ_194 m_195 ⟨rfl, K_196, d, S2, gd, sd⟩
        replace sq := m_195 _ sq
        replace sb := m_195 _ sb
        exact J29_1_16 h_193 σ_194 d (t ++ ls) (K.trans K_196 (by intro z hz; simp only [List.mem_cons, List.not_mem_nil, or_false] at hz; rcases hz with rfl | rfl; exact Or.inl (by simp); exact gb.imp (fun q => by rw [q]; simp) id)) S2 sq sd (gd.elim (fun z => by rw [z]; exact gb) (fun z => Or.inr (Nat.le_trans K.1 z))) (by rw [← ht]; simp only [List.append_assoc, List.cons_append, List.nil_append])
      · skip
        refine Road.callV (B' := bSs011) (a := q) 26 (argsL := [(.ref y)]) (rest := []) "java/lang/StringBuilder" 0 bSam_d26 (wI hw 70 rfl) (wI hw 71 rfl) (fun vm hz => Road.notFace_sib (args := #[]) (mv (s := D.s.setVm vm) hz (wI hw 73 rfl)) rfl) (wI hw 73 rfl) (wI hw 72 rfl) (wI hw 47 rfl) (wI hw 74 rfl) (by decide) S.1 (cSs011 l Z a0 hw n0 hEW q b t 16 y yd ls h τ S U (by omega) (by omega) q_y q_yd ny nyd sb sq cp Hc hcp fm hfm Hf H0 H1 H2) (lenOf bSs011_pd rfl) rfl rfl rfl (by decide) (by decide) (ce' := 2) (sl' := 136) rfl rfl (by decide) (by decide) ?_
        rintro _ h_199 σ_200 m_201 ⟨rfl, K_202, d, S2, gd, sd⟩
        replace sq := m_201 _ sq
        replace sb := m_201 _ sb
        rw [show max (t.length + ls.length) (2 * 16 + 2) = 34 from by omega] at S2
        exact J29_1_34 h_199 σ_200 d (t ++ ls) (K.trans K_202 (by intro z hz; simp only [List.mem_cons, List.not_mem_nil, or_false] at hz; rcases hz with rfl | rfl; exact Or.inl (by simp); exact gb.imp (fun q => by rw [q]; simp) id)) S2 sq sd (gd.elim (fun z => by rw [z]; exact gb) (fun z => Or.inr (Nat.le_trans K.1 z))) (by rw [← ht]; simp only [List.append_assoc, List.cons_append, List.nil_append])
  have J25_0_34 : ∀ (h : Heap) (τ : Addr → Prop) (b : Addr) (t : List Int32), Keep h0 h [q, b0] → Road.Sb0 Z h q b t 34 → τ q → τ b → (b = b0 ∨ h0.size ≤ b) → t ++ (ls ++ ([125] ++ ([32] ++ (vs ++ [10])))) = XX → Road.Go l Z a0 consts_1 n0 false bSam D (fun r h2 s2 => r = none ∧ Keep h0 h2 [q, b0] ∧ ∃ d N', (Road.Sb0 Z h2 q d XX N' ∨ Road.Sb1 Z h2 q d XX N') ∧ (N' = 16 ∨ N' = 34) ∧ (d = b0 ∨ h0.size ≤ d) ∧ s2 q ∧ s2 d) h τ 1 68 25 #[.val (.ref e), .val (.ref n), .val (.ref y), .val (.ref v)] [(.ref q)] := by
    intro h τ b t K S sq sb gb ht
    have hl := congrArg List.length ht
    simp only [List.length_append, List.length_cons, List.length_nil] at hl
    obtain ⟨ne, nn, nnd, ny, nyd, nv, nvd⟩ := nb b gb
    refine Road.aloadN 25 bSam_d25 rfl ?_
    rcases Ty with U | U
    · skip
      replace U := U.keep K (ninS q_y (ninS b_y nin0)) (ninS q_yd (ninS b_yd nin0))
      refine Road.callV (B' := bSs000) (a := q) 26 (argsL := [(.ref y)]) (rest := []) "java/lang/StringBuilder" 0 bSam_d26 (wI hw 70 rfl) (wI hw 71 rfl) (fun vm hz => Road.notFace_sib (args := #[]) (mv (s := D.s.setVm vm) hz (wI hw 73 rfl)) rfl) (wI hw 73 rfl) (wI hw 72 rfl) (wI hw 47 rfl) (wI hw 74 rfl) (by decide) S.1 (cSs000 l Z a0 hw n0 hEW q b t 34 y yd ls h τ S U (by omega) (by omega) q_y q_yd ny nyd sb sq cp Hc hcp fm hfm Hf H0 H1 H2) (lenOf bSs000_pd rfl) rfl rfl rfl (by decide) (by decide) (ce' := 1) (sl' := 68) rfl rfl (by decide) (by decide) ?_
      rintro _ h_205 σ_206 m_207 ⟨rfl, K_208, d, S2, gd, sd⟩
      replace sq := m_207 _ sq
      replace sb := m_207 _ sb
      exact J29_0_34 h_205 σ_206 d (t ++ ls) (K.trans K_208 (by intro z hz; simp only [List.mem_cons, List.not_mem_nil, or_false] at hz; rcases hz with rfl | rfl; exact Or.inl (by simp); exact gb.imp (fun q => by rw [q]; simp) id)) S2 sq sd (gd.elim (fun z => by rw [z]; exact gb) (fun z => Or.inr (Nat.le_trans K.1 z))) (by rw [← ht]; simp only [List.append_assoc, List.cons_append, List.nil_append])
    · skip
      replace U := U.keep K (ninS q_y (ninS b_y nin0)) (ninS q_yd (ninS b_yd nin0))
      refine Road.callV (B' := bSs010) (a := q) 26 (argsL := [(.ref y)]) (rest := []) "java/lang/StringBuilder" 0 bSam_d26 (wI hw 70 rfl) (wI hw 71 rfl) (fun vm hz => Road.notFace_sib (args := #[]) (mv (s := D.s.setVm vm) hz (wI hw 73 rfl)) rfl) (wI hw 73 rfl) (wI hw 72 rfl) (wI hw 47 rfl) (wI hw 74 rfl) (by decide) S.1 (cSs010 l Z a0 hw n0 hEW q b t 34 y yd ls h τ S U (by omega) (by omega) q_y q_yd ny nyd sb sq cp Hc hcp fm hfm Hf H0 H1 H2) (lenOf bSs010_pd rfl) rfl rfl rfl (by decide) (by decide) (ce' := 2) (sl' := 136) rfl rfl (by decide) (by decide) ?_
      rintro _ h_211 σ_212 m_213 ⟨rfl, K_214, d, S2, gd, sd⟩
      replace sq := m_213 _ sq
      replace sb := m_213 _ sb
      exact J29_1_34 h_211 σ_212 d (t ++ ls) (K.trans K_214 (by intro z hz; simp only [List.mem_cons, List.not_mem_nil, or_false] at hz; rcases hz with rfl | rfl; exact Or.inl (by simp); exact gb.imp (fun q => by rw [q]; simp) id)) S2 sq sd (gd.elim (fun z => by rw [z]; exact gb) (fun z => Or.inr (Nat.le_trans K.1 z))) (by rw [← ht]; simp only [List.append_assoc, List.cons_append, List.nil_append])
  have J25_1_16 : ∀ (h : Heap) (τ : Addr → Prop) (b : Addr) (t : List Int32), Keep h0 h [q, b0] → Road.Sb1 Z h q b t 16 → τ q → τ b → (b = b0 ∨ h0.size ≤ b) → t ++ (ls ++ ([125] ++ ([32] ++ (vs ++ [10])))) = XX → Road.Go l Z a0 consts_1 n0 false bSam D (fun r h2 s2 => r = none ∧ Keep h0 h2 [q, b0] ∧ ∃ d N', (Road.Sb0 Z h2 q d XX N' ∨ Road.Sb1 Z h2 q d XX N') ∧ (N' = 16 ∨ N' = 34) ∧ (d = b0 ∨ h0.size ≤ d) ∧ s2 q ∧ s2 d) h τ 1 68 25 #[.val (.ref e), .val (.ref n), .val (.ref y), .val (.ref v)] [(.ref q)] := by
    intro h τ b t K S sq sb gb ht
    have hl := congrArg List.length ht
    simp only [List.length_append, List.length_cons, List.length_nil] at hl
    obtain ⟨ne, nn, nnd, ny, nyd, nv, nvd⟩ := nb b gb
    refine Road.aloadN 25 bSam_d25 rfl ?_
    rcases Ty with U | U
    · skip
      replace U := U.keep K (ninS q_y (ninS b_y nin0)) (ninS q_yd (ninS b_yd nin0))
      by_cases hm : t.length + ls.length ≤ 16
      · skip
        refine Road.callV (B' := bSs100) (a := q) 26 (argsL := [(.ref y)]) (rest := []) "java/lang/StringBuilder" 0 bSam_d26 (wI hw 70 rfl) (wI hw 71 rfl) (fun vm hz => Road.notFace_sib (args := #[]) (mv (s := D.s.setVm vm) hz (wI hw 73 rfl)) rfl) (wI hw 73 rfl) (wI hw 72 rfl) (wI hw 47 rfl) (wI hw 74 rfl) (by decide) S.1 (cSs100 l Z a0 hw n0 hEW q b t 16 y yd ls h τ S U hm (by omega) q_y q_yd ny nyd sb sq cp Hc hcp fm hfm Hf H0 H1 H2) (lenOf bSs100_pd rfl) rfl rfl rfl (by decide) (by decide) (ce' := 1) (sl' := 68) rfl rfl (by decide) (by decide) ?_
        rintro _ h_217 σ_218 m_219 ⟨rfl, K_220, d, S2, gd, sd⟩
        replace sq := m_219 _ sq
        replace sb := m_219 _ sb
        exact J29_1_16 h_217 σ_218 d (t ++ ls) (K.trans K_220 (by intro z hz; simp only [List.mem_cons, List.not_mem_nil, or_false] at hz; rcases hz with rfl | rfl; exact Or.inl (by simp); exact gb.imp (fun q => by rw [q]; simp) id)) S2 sq sd (gd.elim (fun z => by rw [z]; exact gb) (fun z => Or.inr (Nat.le_trans K.1 z))) (by rw [← ht]; simp only [List.append_assoc, List.cons_append, List.nil_append])
      · skip
        refine Road.callV (B' := bSs101) (a := q) 26 (argsL := [(.ref y)]) (rest := []) "java/lang/StringBuilder" 0 bSam_d26 (wI hw 70 rfl) (wI hw 71 rfl) (fun vm hz => Road.notFace_sib (args := #[]) (mv (s := D.s.setVm vm) hz (wI hw 73 rfl)) rfl) (wI hw 73 rfl) (wI hw 72 rfl) (wI hw 47 rfl) (wI hw 74 rfl) (by decide) S.1 (cSs101 l Z a0 hw n0 hEW q b t 16 y yd ls h τ S U (by omega) (by omega) q_y q_yd ny nyd sb sq cp Hc hcp fm hfm Hf H0 H1 H2) (lenOf bSs101_pd rfl) rfl rfl rfl (by decide) (by decide) (ce' := 2) (sl' := 136) rfl rfl (by decide) (by decide) ?_
        rintro _ h_223 σ_224 m_225 ⟨rfl, K_226, d, S2, gd, sd⟩
        replace sq := m_225 _ sq
        replace sb := m_225 _ sb
        rw [show max (t.length + ls.length) (2 * 16 + 2) = 34 from by omega] at S2
        exact J29_1_34 h_223 σ_224 d (t ++ ls) (K.trans K_226 (by intro z hz; simp only [List.mem_cons, List.not_mem_nil, or_false] at hz; rcases hz with rfl | rfl; exact Or.inl (by simp); exact gb.imp (fun q => by rw [q]; simp) id)) S2 sq sd (gd.elim (fun z => by rw [z]; exact gb) (fun z => Or.inr (Nat.le_trans K.1 z))) (by rw [← ht]; simp only [List.append_assoc, List.cons_append, List.nil_append])
    · skip
      replace U := U.keep K (ninS q_y (ninS b_y nin0)) (ninS q_yd (ninS b_yd nin0))
      by_cases hm : t.length + ls.length ≤ 16
      · skip
        refine Road.callV (B' := bSs110) (a := q) 26 (argsL := [(.ref y)]) (rest := []) "java/lang/StringBuilder" 0 bSam_d26 (wI hw 70 rfl) (wI hw 71 rfl) (fun vm hz => Road.notFace_sib (args := #[]) (mv (s := D.s.setVm vm) hz (wI hw 73 rfl)) rfl) (wI hw 73 rfl) (wI hw 72 rfl) (wI hw 47 rfl) (wI hw 74 rfl) (by decide) S.1 (cSs110 l Z a0 hw n0 hEW q b t 16 y yd ls h τ S U hm (by omega) q_y q_yd ny nyd sb sq cp Hc hcp fm hfm Hf H0 H1 H2) (lenOf bSs110_pd rfl) rfl rfl rfl (by decide) (by decide) (ce' := 1) (sl' := 68) rfl rfl (by decide) (by decide) ?_
        rintro _ h_229 σ_230 m_231 ⟨rfl, K_232, d, S2, gd, sd⟩
        replace sq := m_231 _ sq
        replace sb := m_231 _ sb
        exact J29_1_16 h_229 σ_230 d (t ++ ls) (K.trans K_232 (by intro z hz; simp only [List.mem_cons, List.not_mem_nil, or_false] at hz; rcases hz with rfl | rfl; exact Or.inl (by simp); exact gb.imp (fun q => by rw [q]; simp) id)) S2 sq sd (gd.elim (fun z => by rw [z]; exact gb) (fun z => Or.inr (Nat.le_trans K.1 z))) (by rw [← ht]; simp only [List.append_assoc, List.cons_append, List.nil_append])
      · skip
        refine Road.callV (B' := bSs111) (a := q) 26 (argsL := [(.ref y)]) (rest := []) "java/lang/StringBuilder" 0 bSam_d26 (wI hw 70 rfl) (wI hw 71 rfl) (fun vm hz => Road.notFace_sib (args := #[]) (mv (s := D.s.setVm vm) hz (wI hw 73 rfl)) rfl) (wI hw 73 rfl) (wI hw 72 rfl) (wI hw 47 rfl) (wI hw 74 rfl) (by decide) S.1 (cSs111 l Z a0 hw n0 hEW q b t 16 y yd ls h τ S U (by omega) (by omega) q_y q_yd ny nyd sb sq cp Hc hcp fm hfm Hf H0 H1 H2) (lenOf bSs111_pd rfl) rfl rfl rfl (by decide) (by decide) (ce' := 2) (sl' := 136) rfl rfl (by decide) (by decide) ?_
        rintro _ h_235 σ_236 m_237 ⟨rfl, K_238, d, S2, gd, sd⟩
        replace sq := m_237 _ sq
        replace sb := m_237 _ sb
        rw [show max (t.length + ls.length) (2 * 16 + 2) = 34 from by omega] at S2
        exact J29_1_34 h_235 σ_236 d (t ++ ls) (K.trans K_238 (by intro z hz; simp only [List.mem_cons, List.not_mem_nil, or_false] at hz; rcases hz with rfl | rfl; exact Or.inl (by simp); exact gb.imp (fun q => by rw [q]; simp) id)) S2 sq sd (gd.elim (fun z => by rw [z]; exact gb) (fun z => Or.inr (Nat.le_trans K.1 z))) (by rw [← ht]; simp only [List.append_assoc, List.cons_append, List.nil_append])
  have J25_1_34 : ∀ (h : Heap) (τ : Addr → Prop) (b : Addr) (t : List Int32), Keep h0 h [q, b0] → Road.Sb1 Z h q b t 34 → τ q → τ b → (b = b0 ∨ h0.size ≤ b) → t ++ (ls ++ ([125] ++ ([32] ++ (vs ++ [10])))) = XX → Road.Go l Z a0 consts_1 n0 false bSam D (fun r h2 s2 => r = none ∧ Keep h0 h2 [q, b0] ∧ ∃ d N', (Road.Sb0 Z h2 q d XX N' ∨ Road.Sb1 Z h2 q d XX N') ∧ (N' = 16 ∨ N' = 34) ∧ (d = b0 ∨ h0.size ≤ d) ∧ s2 q ∧ s2 d) h τ 2 136 25 #[.val (.ref e), .val (.ref n), .val (.ref y), .val (.ref v)] [(.ref q)] := by
    intro h τ b t K S sq sb gb ht
    have hl := congrArg List.length ht
    simp only [List.length_append, List.length_cons, List.length_nil] at hl
    obtain ⟨ne, nn, nnd, ny, nyd, nv, nvd⟩ := nb b gb
    refine Road.aloadN 25 bSam_d25 rfl ?_
    rcases Ty with U | U
    · skip
      replace U := U.keep K (ninS q_y (ninS b_y nin0)) (ninS q_yd (ninS b_yd nin0))
      refine Road.callV (B' := bSs100) (a := q) 26 (argsL := [(.ref y)]) (rest := []) "java/lang/StringBuilder" 0 bSam_d26 (wI hw 70 rfl) (wI hw 71 rfl) (fun vm hz => Road.notFace_sib (args := #[]) (mv (s := D.s.setVm vm) hz (wI hw 73 rfl)) rfl) (wI hw 73 rfl) (wI hw 72 rfl) (wI hw 47 rfl) (wI hw 74 rfl) (by decide) S.1 (cSs100 l Z a0 hw n0 hEW q b t 34 y yd ls h τ S U (by omega) (by omega) q_y q_yd ny nyd sb sq cp Hc hcp fm hfm Hf H0 H1 H2) (lenOf bSs100_pd rfl) rfl rfl rfl (by decide) (by decide) (ce' := 2) (sl' := 136) rfl rfl (by decide) (by decide) ?_
      rintro _ h_241 σ_242 m_243 ⟨rfl, K_244, d, S2, gd, sd⟩
      replace sq := m_243 _ sq
      replace sb := m_243 _ sb
      exact J29_1_34 h_241 σ_242 d (t ++ ls) (K.trans K_244 (by intro z hz; simp only [List.mem_cons, List.not_mem_nil, or_false] at hz; rcases hz with rfl | rfl; exact Or.inl (by simp); exact gb.imp (fun q => by rw [q]; simp) id)) S2 sq sd (gd.elim (fun z => by rw [z]; exact gb) (fun z => Or.inr (Nat.le_trans K.1 z))) (by rw [← ht]; simp only [List.append_assoc, List.cons_append, List.nil_append])
    · skip
      replace U := U.keep K (ninS q_y (ninS b_y nin0)) (ninS q_yd (ninS b_yd nin0))
      refine Road.callV (B' := bSs110) (a := q) 26 (argsL := [(.ref y)]) (rest := []) "java/lang/StringBuilder" 0 bSam_d26 (wI hw 70 rfl) (wI hw 71 rfl) (fun vm hz => Road.notFace_sib (args := #[]) (mv (s := D.s.setVm vm) hz (wI hw 73 rfl)) rfl) (wI hw 73 rfl) (wI hw 72 rfl) (wI hw 47 rfl) (wI hw 74 rfl) (by decide) S.1 (cSs110 l Z a0 hw n0 hEW q b t 34 y yd ls h τ S U (by omega) (by omega) q_y q_yd ny nyd sb sq cp Hc hcp fm hfm Hf H0 H1 H2) (lenOf bSs110_pd rfl) rfl rfl rfl (by decide) (by decide) (ce' := 2) (sl' := 136) rfl rfl (by decide) (by decide) ?_
      rintro _ h_247 σ_248 m_249 ⟨rfl, K_250, d, S2, gd, sd⟩
      replace sq := m_249 _ sq
      replace sb := m_249 _ sb
      exact J29_1_34 h_247 σ_248 d (t ++ ls) (K.trans K_250 (by intro z hz; simp only [List.mem_cons, List.not_mem_nil, or_false] at hz; rcases hz with rfl | rfl; exact Or.inl (by simp); exact gb.imp (fun q => by rw [q]; simp) id)) S2 sq sd (gd.elim (fun z => by rw [z]; exact gb) (fun z => Or.inr (Nat.le_trans K.1 z))) (by rw [← ht]; simp only [List.append_assoc, List.cons_append, List.nil_append])
  have J16_0_16 : ∀ (h : Heap) (τ : Addr → Prop) (b : Addr) (t : List Int32), Keep h0 h [q, b0] → Road.Sb0 Z h q b t 16 → τ q → τ b → (b = b0 ∨ h0.size ≤ b) → t ++ ([123] ++ (ls ++ ([125] ++ ([32] ++ (vs ++ [10]))))) = XX → Road.Go l Z a0 consts_1 n0 false bSam D (fun r h2 s2 => r = none ∧ Keep h0 h2 [q, b0] ∧ ∃ d N', (Road.Sb0 Z h2 q d XX N' ∨ Road.Sb1 Z h2 q d XX N') ∧ (N' = 16 ∨ N' = 34) ∧ (d = b0 ∨ h0.size ≤ d) ∧ s2 q ∧ s2 d) h τ 0 0 16 #[.val (.ref e), .val (.ref n), .val (.ref y), .val (.ref v)] [] := by
    intro h τ b t K S sq sb gb ht
    have hl := congrArg List.length ht
    simp only [List.length_append, List.length_cons, List.length_nil] at hl
    obtain ⟨ne, nn, nnd, ny, nyd, nv, nvd⟩ := nb b gb
    refine Road.aloadN 16 bSam_d16 rfl ?_
    refine Road.getfield 17 bSam_d17 (wI hw 63 rfl) Via.refl (Fe.keep K (ninS q_e (ninS b_e nin0))) ?_
    refine Road.bipush 20 (123 : Int32) bSam_d20 rfl ?_
    by_cases hm : t.length + 1 ≤ 16
    · skip
      refine Road.callV (B' := bSh00) (a := q) 22 (argsL := [(.int (123 : Int32))]) (rest := []) "java/lang/StringBuilder" 0 bSam_d22 (wI hw 122 rfl) (wI hw 123 rfl) (fun vm hz => Road.notFace_sib (args := #[]) (mv (s := D.s.setVm vm) hz (wI hw 73 rfl)) rfl) (wI hw 125 rfl) (wI hw 124 rfl) (wI hw 47 rfl) (wI hw 126 rfl) (by decide) S.1 (cSh00 l Z a0 hw n0 hEW q b t 16 (123 : Int32) h τ S (by decide) hm sb sq cp Hc hcp fm hfm Hf H0 H1 H2) (lenOf bSh00_pd rfl) rfl rfl rfl (by decide) (by decide) (ce' := 0) (sl' := 0) rfl rfl (by decide) (by decide) ?_
      rintro _ h_253 σ_254 m_255 ⟨rfl, K_256, d, S2, gd, sd⟩
      replace sq := m_255 _ sq
      replace sb := m_255 _ sb
      exact J25_0_16 h_253 σ_254 d (t ++ [(123 : Int32)]) (K.trans K_256 (by intro z hz; simp only [List.mem_cons, List.not_mem_nil, or_false] at hz; rcases hz with rfl | rfl; exact Or.inl (by simp); exact gb.imp (fun q => by rw [q]; simp) id)) S2 sq sd (gd.elim (fun z => by rw [z]; exact gb) (fun z => Or.inr (Nat.le_trans K.1 z))) (by rw [← ht]; simp only [List.append_assoc, List.cons_append, List.nil_append])
    · skip
      refine Road.callV (B' := bSh01) (a := q) 22 (argsL := [(.int (123 : Int32))]) (rest := []) "java/lang/StringBuilder" 0 bSam_d22 (wI hw 122 rfl) (wI hw 123 rfl) (fun vm hz => Road.notFace_sib (args := #[]) (mv (s := D.s.setVm vm) hz (wI hw 73 rfl)) rfl) (wI hw 125 rfl) (wI hw 124 rfl) (wI hw 47 rfl) (wI hw 126 rfl) (by decide) S.1 (cSh01 l Z a0 hw n0 hEW q b t 16 (123 : Int32) h τ S (by decide) (by omega) (by omega) sb sq cp Hc hcp fm hfm Hf H0 H1 H2) (lenOf bSh01_pd rfl) rfl rfl rfl (by decide) (by decide) (ce' := 1) (sl' := 68) rfl rfl (by decide) (by decide) ?_
      rintro _ h_259 σ_260 m_261 ⟨rfl, K_262, d, S2, gd, sd⟩
      replace sq := m_261 _ sq
      replace sb := m_261 _ sb
      rw [show max (t.length + 1) (2 * 16 + 2) = 34 from by omega] at S2
      exact J25_0_34 h_259 σ_260 d (t ++ [(123 : Int32)]) (K.trans K_262 (by intro z hz; simp only [List.mem_cons, List.not_mem_nil, or_false] at hz; rcases hz with rfl | rfl; exact Or.inl (by simp); exact gb.imp (fun q => by rw [q]; simp) id)) S2 sq sd (gd.elim (fun z => by rw [z]; exact gb) (fun z => Or.inr (Nat.le_trans K.1 z))) (by rw [← ht]; simp only [List.append_assoc, List.cons_append, List.nil_append])
  have J16_0_34 : ∀ (h : Heap) (τ : Addr → Prop) (b : Addr) (t : List Int32), Keep h0 h [q, b0] → Road.Sb0 Z h q b t 34 → τ q → τ b → (b = b0 ∨ h0.size ≤ b) → t ++ ([123] ++ (ls ++ ([125] ++ ([32] ++ (vs ++ [10]))))) = XX → Road.Go l Z a0 consts_1 n0 false bSam D (fun r h2 s2 => r = none ∧ Keep h0 h2 [q, b0] ∧ ∃ d N', (Road.Sb0 Z h2 q d XX N' ∨ Road.Sb1 Z h2 q d XX N') ∧ (N' = 16 ∨ N' = 34) ∧ (d = b0 ∨ h0.size ≤ d) ∧ s2 q ∧ s2 d) h τ 1 68 16 #[.val (.ref e), .val (.ref n), .val (.ref y), .val (.ref v)] [] := by
    intro h τ b t K S sq sb gb ht
    have hl := congrArg List.length ht
    simp only [List.length_append, List.length_cons, List.length_nil] at hl
    obtain ⟨ne, nn, nnd, ny, nyd, nv, nvd⟩ := nb b gb
    refine Road.aloadN 16 bSam_d16 rfl ?_
    refine Road.getfield 17 bSam_d17 (wI hw 63 rfl) Via.refl (Fe.keep K (ninS q_e (ninS b_e nin0))) ?_
    refine Road.bipush 20 (123 : Int32) bSam_d20 rfl ?_
    refine Road.callV (B' := bSh00) (a := q) 22 (argsL := [(.int (123 : Int32))]) (rest := []) "java/lang/StringBuilder" 0 bSam_d22 (wI hw 122 rfl) (wI hw 123 rfl) (fun vm hz => Road.notFace_sib (args := #[]) (mv (s := D.s.setVm vm) hz (wI hw 73 rfl)) rfl) (wI hw 125 rfl) (wI hw 124 rfl) (wI hw 47 rfl) (wI hw 126 rfl) (by decide) S.1 (cSh00 l Z a0 hw n0 hEW q b t 34 (123 : Int32) h τ S (by decide) (by omega) sb sq cp Hc hcp fm hfm Hf H0 H1 H2) (lenOf bSh00_pd rfl) rfl rfl rfl (by decide) (by decide) (ce' := 1) (sl' := 68) rfl rfl (by decide) (by decide) ?_
    rintro _ h_265 σ_266 m_267 ⟨rfl, K_268, d, S2, gd, sd⟩
    replace sq := m_267 _ sq
    replace sb := m_267 _ sb
    exact J25_0_34 h_265 σ_266 d (t ++ [(123 : Int32)]) (K.trans K_268 (by intro z hz; simp only [List.mem_cons, List.not_mem_nil, or_false] at hz; rcases hz with rfl | rfl; exact Or.inl (by simp); exact gb.imp (fun q => by rw [q]; simp) id)) S2 sq sd (gd.elim (fun z => by rw [z]; exact gb) (fun z => Or.inr (Nat.le_trans K.1 z))) (by rw [← ht]; simp only [List.append_assoc, List.cons_append, List.nil_append])
  have J16_1_16 : ∀ (h : Heap) (τ : Addr → Prop) (b : Addr) (t : List Int32), Keep h0 h [q, b0] → Road.Sb1 Z h q b t 16 → τ q → τ b → (b = b0 ∨ h0.size ≤ b) → t ++ ([123] ++ (ls ++ ([125] ++ ([32] ++ (vs ++ [10]))))) = XX → Road.Go l Z a0 consts_1 n0 false bSam D (fun r h2 s2 => r = none ∧ Keep h0 h2 [q, b0] ∧ ∃ d N', (Road.Sb0 Z h2 q d XX N' ∨ Road.Sb1 Z h2 q d XX N') ∧ (N' = 16 ∨ N' = 34) ∧ (d = b0 ∨ h0.size ≤ d) ∧ s2 q ∧ s2 d) h τ 1 68 16 #[.val (.ref e), .val (.ref n), .val (.ref y), .val (.ref v)] [] := by
    intro h τ b t K S sq sb gb ht
    have hl := congrArg List.length ht
    simp only [List.length_append, List.length_cons, List.length_nil] at hl
    obtain ⟨ne, nn, nnd, ny, nyd, nv, nvd⟩ := nb b gb
    refine Road.aloadN 16 bSam_d16 rfl ?_
    refine Road.getfield 17 bSam_d17 (wI hw 63 rfl) Via.refl (Fe.keep K (ninS q_e (ninS b_e nin0))) ?_
    refine Road.bipush 20 (123 : Int32) bSam_d20 rfl ?_
    by_cases hm : t.length + 1 ≤ 16
    · skip
      refine Road.callV (B' := bSh10) (a := q) 22 (argsL := [(.int (123 : Int32))]) (rest := []) "java/lang/StringBuilder" 0 bSam_d22 (wI hw 122 rfl) (wI hw 123 rfl) (fun vm hz => Road.notFace_sib (args := #[]) (mv (s := D.s.setVm vm) hz (wI hw 73 rfl)) rfl) (wI hw 125 rfl) (wI hw 124 rfl) (wI hw 47 rfl) (wI hw 126 rfl) (by decide) S.1 (cSh10 l Z a0 hw n0 hEW q b t 16 (123 : Int32) h τ S (by decide) hm sb sq cp Hc hcp fm hfm Hf H0 H1 H2) (lenOf bSh10_pd rfl) rfl rfl rfl (by decide) (by decide) (ce' := 1) (sl' := 68) rfl rfl (by decide) (by decide) ?_
      rintro _ h_271 σ_272 m_273 ⟨rfl, K_274, d, S2, gd, sd⟩
      replace sq := m_273 _ sq
      replace sb := m_273 _ sb
      exact J25_1_16 h_271 σ_272 d (t ++ [(123 : Int32)]) (K.trans K_274 (by intro z hz; simp only [List.mem_cons, List.not_mem_nil, or_false] at hz; rcases hz with rfl | rfl; exact Or.inl (by simp); exact gb.imp (fun q => by rw [q]; simp) id)) S2 sq sd (gd.elim (fun z => by rw [z]; exact gb) (fun z => Or.inr (Nat.le_trans K.1 z))) (by rw [← ht]; simp only [List.append_assoc, List.cons_append, List.nil_append])
    · skip
      refine Road.callV (B' := bSh11) (a := q) 22 (argsL := [(.int (123 : Int32))]) (rest := []) "java/lang/StringBuilder" 0 bSam_d22 (wI hw 122 rfl) (wI hw 123 rfl) (fun vm hz => Road.notFace_sib (args := #[]) (mv (s := D.s.setVm vm) hz (wI hw 73 rfl)) rfl) (wI hw 125 rfl) (wI hw 124 rfl) (wI hw 47 rfl) (wI hw 126 rfl) (by decide) S.1 (cSh11 l Z a0 hw n0 hEW q b t 16 (123 : Int32) h τ S (by decide) (by omega) (by omega) sb sq cp Hc hcp fm hfm Hf H0 H1 H2) (lenOf bSh11_pd rfl) rfl rfl rfl (by decide) (by decide) (ce' := 2) (sl' := 136) rfl rfl (by decide) (by decide) ?_
      rintro _ h_277 σ_278 m_279 ⟨rfl, K_280, d, S2, gd, sd⟩
      replace sq := m_279 _ sq
      replace sb := m_279 _ sb
      rw [show max (t.length + 1) (2 * 16 + 2) = 34 from by omega] at S2
      exact J25_1_34 h_277 σ_278 d (t ++ [(123 : Int32)]) (K.trans K_280 (by intro z hz; simp only [List.mem_cons, List.not_mem_nil, or_false] at hz; rcases hz with rfl | rfl; exact Or.inl (by simp); exact gb.imp (fun q => by rw [q]; simp) id)) S2 sq sd (gd.elim (fun z => by rw [z]; exact gb) (fun z => Or.inr (Nat.le_trans K.1 z))) (by rw [← ht]; simp only [List.append_assoc, List.cons_append, List.nil_append])
  have J16_1_34 : ∀ (h : Heap) (τ : Addr → Prop) (b : Addr) (t : List Int32), Keep h0 h [q, b0] → Road.Sb1 Z h q b t 34 → τ q → τ b → (b = b0 ∨ h0.size ≤ b) → t ++ ([123] ++ (ls ++ ([125] ++ ([32] ++ (vs ++ [10]))))) = XX → Road.Go l Z a0 consts_1 n0 false bSam D (fun r h2 s2 => r = none ∧ Keep h0 h2 [q, b0] ∧ ∃ d N', (Road.Sb0 Z h2 q d XX N' ∨ Road.Sb1 Z h2 q d XX N') ∧ (N' = 16 ∨ N' = 34) ∧ (d = b0 ∨ h0.size ≤ d) ∧ s2 q ∧ s2 d) h τ 2 136 16 #[.val (.ref e), .val (.ref n), .val (.ref y), .val (.ref v)] [] := by
    intro h τ b t K S sq sb gb ht
    have hl := congrArg List.length ht
    simp only [List.length_append, List.length_cons, List.length_nil] at hl
    obtain ⟨ne, nn, nnd, ny, nyd, nv, nvd⟩ := nb b gb
    refine Road.aloadN 16 bSam_d16 rfl ?_
    refine Road.getfield 17 bSam_d17 (wI hw 63 rfl) Via.refl (Fe.keep K (ninS q_e (ninS b_e nin0))) ?_
    refine Road.bipush 20 (123 : Int32) bSam_d20 rfl ?_
    refine Road.callV (B' := bSh10) (a := q) 22 (argsL := [(.int (123 : Int32))]) (rest := []) "java/lang/StringBuilder" 0 bSam_d22 (wI hw 122 rfl) (wI hw 123 rfl) (fun vm hz => Road.notFace_sib (args := #[]) (mv (s := D.s.setVm vm) hz (wI hw 73 rfl)) rfl) (wI hw 125 rfl) (wI hw 124 rfl) (wI hw 47 rfl) (wI hw 126 rfl) (by decide) S.1 (cSh10 l Z a0 hw n0 hEW q b t 34 (123 : Int32) h τ S (by decide) (by omega) sb sq cp Hc hcp fm hfm Hf H0 H1 H2) (lenOf bSh10_pd rfl) rfl rfl rfl (by decide) (by decide) (ce' := 2) (sl' := 136) rfl rfl (by decide) (by decide) ?_
    rintro _ h_283 σ_284 m_285 ⟨rfl, K_286, d, S2, gd, sd⟩
    replace sq := m_285 _ sq
    replace sb := m_285 _ sb
    exact J25_1_34 h_283 σ_284 d (t ++ [(123 : Int32)]) (K.trans K_286 (by intro z hz; simp only [List.mem_cons, List.not_mem_nil, or_false] at hz; rcases hz with rfl | rfl; exact Or.inl (by simp); exact gb.imp (fun q => by rw [q]; simp) id)) S2 sq sd (gd.elim (fun z => by rw [z]; exact gb) (fun z => Or.inr (Nat.le_trans K.1 z))) (by rw [← ht]; simp only [List.append_assoc, List.cons_append, List.nil_append])
  have J9_0_16 : ∀ (h : Heap) (τ : Addr → Prop) (b : Addr) (t : List Int32), Keep h0 h [q, b0] → Road.Sb0 Z h q b t 16 → τ q → τ b → (b = b0 ∨ h0.size ≤ b) → t ++ ((if ls = [] then ([] : List Int32) else [123] ++ ls ++ [125]) ++ ([32] ++ (vs ++ [10]))) = XX → Road.Go l Z a0 consts_1 n0 false bSam D (fun r h2 s2 => r = none ∧ Keep h0 h2 [q, b0] ∧ ∃ d N', (Road.Sb0 Z h2 q d XX N' ∨ Road.Sb1 Z h2 q d XX N') ∧ (N' = 16 ∨ N' = 34) ∧ (d = b0 ∨ h0.size ≤ d) ∧ s2 q ∧ s2 d) h τ 0 0 9 #[.val (.ref e), .val (.ref n), .val (.ref y), .val (.ref v)] [] := by
    intro h τ b t K S sq sb gb ht
    have hl := congrArg List.length ht
    simp only [List.length_append, List.length_cons, List.length_nil] at hl
    obtain ⟨ne, nn, nnd, ny, nyd, nv, nvd⟩ := nb b gb
    have U : Road.StrX Z h y yd ls := Ty.imp (fun q => q.keep K (ninS q_y (ninS b_y nin0)) (ninS q_yd (ninS b_yd nin0))) (fun q => q.keep K (ninS q_y (ninS b_y nin0)) (ninS q_yd (ninS b_yd nin0)))
    have EU : Exa Z h y Road.SN := U.elim (fun q => q.1) (fun q => q.1)
    refine Road.aloadN 9 bSam_d9 rfl ?_
    refine Road.callV (B' := bEmX) (a := y) 10 (argsL := []) (rest := []) "java/lang/String" 0 bSam_d10 (wI hw 117 rfl) (wI hw 118 rfl) (fun vm hz => Road.notFace_sib (args := #[]) (mv (s := D.s.setVm vm) hz (wI hw 83 rfl)) rfl) (wI hw 120 rfl) (wI hw 119 rfl) (wI hw 7 rfl) (wI hw 121 rfl) (by decide) EU (cEmX l Z a0 hw n0 hEW y yd ls h τ U) (lenOf bEmX_pd rfl) rfl rfl rfl (by decide) (by decide) (ce' := 0) (sl' := 0) rfl rfl (by decide) (by decide) ?_
    rintro _ h_289 σ_290 m_291 ⟨rfl, rfl⟩
    refine Road.Go.weaken (σ' := τ) m_291 (Nat.le_refl _) (Nat.le_refl _) ?_
    by_cases hls : ls = []
    · skip
      rw [if_pos hls] at ht
      refine Road.nameI ?_
      intro z_293 hz_293
      obtain rfl : z_293 = (1 : Int32) := by rw [hz_293]; rw [if_pos hls]
      refine Road.if_ne 13 35 bSam_d13 rfl (fun hc13 => ?_) (fun q => absurd q (by decide))
      exact J35_0_16 h τ b t K S sq sb gb ht
    · skip
      rw [if_neg hls] at ht
      refine Road.nameI ?_
      intro z_294 hz_294
      obtain rfl : z_294 = (0 : Int32) := by rw [hz_294]; rw [if_neg hls]
      refine Road.if_ne 13 35 bSam_d13 rfl (fun q => absurd q (by decide)) (fun hc13 => ?_)
      exact J16_0_16 h τ b t K S sq sb gb (by rw [← ht]; simp only [List.append_assoc, List.cons_append, List.nil_append])
  have J9_0_34 : ∀ (h : Heap) (τ : Addr → Prop) (b : Addr) (t : List Int32), Keep h0 h [q, b0] → Road.Sb0 Z h q b t 34 → τ q → τ b → (b = b0 ∨ h0.size ≤ b) → t ++ ((if ls = [] then ([] : List Int32) else [123] ++ ls ++ [125]) ++ ([32] ++ (vs ++ [10]))) = XX → Road.Go l Z a0 consts_1 n0 false bSam D (fun r h2 s2 => r = none ∧ Keep h0 h2 [q, b0] ∧ ∃ d N', (Road.Sb0 Z h2 q d XX N' ∨ Road.Sb1 Z h2 q d XX N') ∧ (N' = 16 ∨ N' = 34) ∧ (d = b0 ∨ h0.size ≤ d) ∧ s2 q ∧ s2 d) h τ 1 68 9 #[.val (.ref e), .val (.ref n), .val (.ref y), .val (.ref v)] [] := by
    intro h τ b t K S sq sb gb ht
    have hl := congrArg List.length ht
    simp only [List.length_append, List.length_cons, List.length_nil] at hl
    obtain ⟨ne, nn, nnd, ny, nyd, nv, nvd⟩ := nb b gb
    have U : Road.StrX Z h y yd ls := Ty.imp (fun q => q.keep K (ninS q_y (ninS b_y nin0)) (ninS q_yd (ninS b_yd nin0))) (fun q => q.keep K (ninS q_y (ninS b_y nin0)) (ninS q_yd (ninS b_yd nin0)))
    have EU : Exa Z h y Road.SN := U.elim (fun q => q.1) (fun q => q.1)
    refine Road.aloadN 9 bSam_d9 rfl ?_
    refine Road.callV (B' := bEmX) (a := y) 10 (argsL := []) (rest := []) "java/lang/String" 0 bSam_d10 (wI hw 117 rfl) (wI hw 118 rfl) (fun vm hz => Road.notFace_sib (args := #[]) (mv (s := D.s.setVm vm) hz (wI hw 83 rfl)) rfl) (wI hw 120 rfl) (wI hw 119 rfl) (wI hw 7 rfl) (wI hw 121 rfl) (by decide) EU (cEmX l Z a0 hw n0 hEW y yd ls h τ U) (lenOf bEmX_pd rfl) rfl rfl rfl (by decide) (by decide) (ce' := 1) (sl' := 68) rfl rfl (by decide) (by decide) ?_
    rintro _ h_295 σ_296 m_297 ⟨rfl, rfl⟩
    refine Road.Go.weaken (σ' := τ) m_297 (Nat.le_refl _) (Nat.le_refl _) ?_
    by_cases hls : ls = []
    · skip
      rw [if_pos hls] at ht
      refine Road.nameI ?_
      intro z_299 hz_299
      obtain rfl : z_299 = (1 : Int32) := by rw [hz_299]; rw [if_pos hls]
      refine Road.if_ne 13 35 bSam_d13 rfl (fun hc13 => ?_) (fun q => absurd q (by decide))
      exact J35_0_34 h τ b t K S sq sb gb ht
    · skip
      rw [if_neg hls] at ht
      refine Road.nameI ?_
      intro z_300 hz_300
      obtain rfl : z_300 = (0 : Int32) := by rw [hz_300]; rw [if_neg hls]
      refine Road.if_ne 13 35 bSam_d13 rfl (fun q => absurd q (by decide)) (fun hc13 => ?_)
      exact J16_0_34 h τ b t K S sq sb gb (by rw [← ht]; simp only [List.append_assoc, List.cons_append, List.nil_append])
  have J9_1_16 : ∀ (h : Heap) (τ : Addr → Prop) (b : Addr) (t : List Int32), Keep h0 h [q, b0] → Road.Sb1 Z h q b t 16 → τ q → τ b → (b = b0 ∨ h0.size ≤ b) → t ++ ((if ls = [] then ([] : List Int32) else [123] ++ ls ++ [125]) ++ ([32] ++ (vs ++ [10]))) = XX → Road.Go l Z a0 consts_1 n0 false bSam D (fun r h2 s2 => r = none ∧ Keep h0 h2 [q, b0] ∧ ∃ d N', (Road.Sb0 Z h2 q d XX N' ∨ Road.Sb1 Z h2 q d XX N') ∧ (N' = 16 ∨ N' = 34) ∧ (d = b0 ∨ h0.size ≤ d) ∧ s2 q ∧ s2 d) h τ 1 68 9 #[.val (.ref e), .val (.ref n), .val (.ref y), .val (.ref v)] [] := by
    intro h τ b t K S sq sb gb ht
    have hl := congrArg List.length ht
    simp only [List.length_append, List.length_cons, List.length_nil] at hl
    obtain ⟨ne, nn, nnd, ny, nyd, nv, nvd⟩ := nb b gb
    have U : Road.StrX Z h y yd ls := Ty.imp (fun q => q.keep K (ninS q_y (ninS b_y nin0)) (ninS q_yd (ninS b_yd nin0))) (fun q => q.keep K (ninS q_y (ninS b_y nin0)) (ninS q_yd (ninS b_yd nin0)))
    have EU : Exa Z h y Road.SN := U.elim (fun q => q.1) (fun q => q.1)
    refine Road.aloadN 9 bSam_d9 rfl ?_
    refine Road.callV (B' := bEmX) (a := y) 10 (argsL := []) (rest := []) "java/lang/String" 0 bSam_d10 (wI hw 117 rfl) (wI hw 118 rfl) (fun vm hz => Road.notFace_sib (args := #[]) (mv (s := D.s.setVm vm) hz (wI hw 83 rfl)) rfl) (wI hw 120 rfl) (wI hw 119 rfl) (wI hw 7 rfl) (wI hw 121 rfl) (by decide) EU (cEmX l Z a0 hw n0 hEW y yd ls h τ U) (lenOf bEmX_pd rfl) rfl rfl rfl (by decide) (by decide) (ce' := 1) (sl' := 68) rfl rfl (by decide) (by decide) ?_
    rintro _ h_301 σ_302 m_303 ⟨rfl, rfl⟩
    refine Road.Go.weaken (σ' := τ) m_303 (Nat.le_refl _) (Nat.le_refl _) ?_
    by_cases hls : ls = []
    · skip
      rw [if_pos hls] at ht
      refine Road.nameI ?_
      intro z_305 hz_305
      obtain rfl : z_305 = (1 : Int32) := by rw [hz_305]; rw [if_pos hls]
      refine Road.if_ne 13 35 bSam_d13 rfl (fun hc13 => ?_) (fun q => absurd q (by decide))
      exact J35_1_16 h τ b t K S sq sb gb ht
    · skip
      rw [if_neg hls] at ht
      refine Road.nameI ?_
      intro z_306 hz_306
      obtain rfl : z_306 = (0 : Int32) := by rw [hz_306]; rw [if_neg hls]
      refine Road.if_ne 13 35 bSam_d13 rfl (fun q => absurd q (by decide)) (fun hc13 => ?_)
      exact J16_1_16 h τ b t K S sq sb gb (by rw [← ht]; simp only [List.append_assoc, List.cons_append, List.nil_append])
  have J9_1_34 : ∀ (h : Heap) (τ : Addr → Prop) (b : Addr) (t : List Int32), Keep h0 h [q, b0] → Road.Sb1 Z h q b t 34 → τ q → τ b → (b = b0 ∨ h0.size ≤ b) → t ++ ((if ls = [] then ([] : List Int32) else [123] ++ ls ++ [125]) ++ ([32] ++ (vs ++ [10]))) = XX → Road.Go l Z a0 consts_1 n0 false bSam D (fun r h2 s2 => r = none ∧ Keep h0 h2 [q, b0] ∧ ∃ d N', (Road.Sb0 Z h2 q d XX N' ∨ Road.Sb1 Z h2 q d XX N') ∧ (N' = 16 ∨ N' = 34) ∧ (d = b0 ∨ h0.size ≤ d) ∧ s2 q ∧ s2 d) h τ 2 136 9 #[.val (.ref e), .val (.ref n), .val (.ref y), .val (.ref v)] [] := by
    intro h τ b t K S sq sb gb ht
    have hl := congrArg List.length ht
    simp only [List.length_append, List.length_cons, List.length_nil] at hl
    obtain ⟨ne, nn, nnd, ny, nyd, nv, nvd⟩ := nb b gb
    have U : Road.StrX Z h y yd ls := Ty.imp (fun q => q.keep K (ninS q_y (ninS b_y nin0)) (ninS q_yd (ninS b_yd nin0))) (fun q => q.keep K (ninS q_y (ninS b_y nin0)) (ninS q_yd (ninS b_yd nin0)))
    have EU : Exa Z h y Road.SN := U.elim (fun q => q.1) (fun q => q.1)
    refine Road.aloadN 9 bSam_d9 rfl ?_
    refine Road.callV (B' := bEmX) (a := y) 10 (argsL := []) (rest := []) "java/lang/String" 0 bSam_d10 (wI hw 117 rfl) (wI hw 118 rfl) (fun vm hz => Road.notFace_sib (args := #[]) (mv (s := D.s.setVm vm) hz (wI hw 83 rfl)) rfl) (wI hw 120 rfl) (wI hw 119 rfl) (wI hw 7 rfl) (wI hw 121 rfl) (by decide) EU (cEmX l Z a0 hw n0 hEW y yd ls h τ U) (lenOf bEmX_pd rfl) rfl rfl rfl (by decide) (by decide) (ce' := 2) (sl' := 136) rfl rfl (by decide) (by decide) ?_
    rintro _ h_307 σ_308 m_309 ⟨rfl, rfl⟩
    refine Road.Go.weaken (σ' := τ) m_309 (Nat.le_refl _) (Nat.le_refl _) ?_
    by_cases hls : ls = []
    · skip
      rw [if_pos hls] at ht
      refine Road.nameI ?_
      intro z_311 hz_311
      obtain rfl : z_311 = (1 : Int32) := by rw [hz_311]; rw [if_pos hls]
      refine Road.if_ne 13 35 bSam_d13 rfl (fun hc13 => ?_) (fun q => absurd q (by decide))
      exact J35_1_34 h τ b t K S sq sb gb ht
    · skip
      rw [if_neg hls] at ht
      refine Road.nameI ?_
      intro z_312 hz_312
      obtain rfl : z_312 = (0 : Int32) := by rw [hz_312]; rw [if_neg hls]
      refine Road.if_ne 13 35 bSam_d13 rfl (fun q => absurd q (by decide)) (fun hc13 => ?_)
      exact J16_1_34 h τ b t K S sq sb gb (by rw [← ht]; simp only [List.append_assoc, List.cons_append, List.nil_append])
  have J0_0_16 : ∀ (h : Heap) (τ : Addr → Prop) (b : Addr) (t : List Int32), Keep h0 h [q, b0] → Road.Sb0 Z h q b t 16 → τ q → τ b → (b = b0 ∨ h0.size ≤ b) → t ++ (ns ++ ((if ls = [] then ([] : List Int32) else [123] ++ ls ++ [125]) ++ ([32] ++ (vs ++ [10])))) = XX → Road.Go l Z a0 consts_1 n0 false bSam D (fun r h2 s2 => r = none ∧ Keep h0 h2 [q, b0] ∧ ∃ d N', (Road.Sb0 Z h2 q d XX N' ∨ Road.Sb1 Z h2 q d XX N') ∧ (N' = 16 ∨ N' = 34) ∧ (d = b0 ∨ h0.size ≤ d) ∧ s2 q ∧ s2 d) h τ 0 0 0 #[.val (.ref e), .val (.ref n), .val (.ref y), .val (.ref v)] [] := by
    intro h τ b t K S sq sb gb ht
    have hl := congrArg List.length ht
    simp only [List.length_append, List.length_cons, List.length_nil] at hl
    obtain ⟨ne, nn, nnd, ny, nyd, nv, nvd⟩ := nb b gb
    refine Road.aloadN 0 bSam_d0 rfl ?_
    refine Road.getfield 1 bSam_d1 (wI hw 63 rfl) Via.refl (Fe.keep K (ninS q_e (ninS b_e nin0))) ?_
    refine Road.aloadN 4 bSam_d4 rfl ?_
    rcases Tn with U | U
    · skip
      replace U := U.keep K (ninS q_n (ninS b_n nin0)) (ninS q_nd (ninS b_nd nin0))
      by_cases hm : t.length + ns.length ≤ 16
      · skip
        refine Road.callV (B' := bSs000) (a := q) 5 (argsL := [(.ref n)]) (rest := []) "java/lang/StringBuilder" 0 bSam_d5 (wI hw 70 rfl) (wI hw 71 rfl) (fun vm hz => Road.notFace_sib (args := #[]) (mv (s := D.s.setVm vm) hz (wI hw 73 rfl)) rfl) (wI hw 73 rfl) (wI hw 72 rfl) (wI hw 47 rfl) (wI hw 74 rfl) (by decide) S.1 (cSs000 l Z a0 hw n0 hEW q b t 16 n nd ns h τ S U hm (by omega) q_n q_nd nn nnd sb sq cp Hc hcp fm hfm Hf H0 H1 H2) (lenOf bSs000_pd rfl) rfl rfl rfl (by decide) (by decide) (ce' := 0) (sl' := 0) rfl rfl (by decide) (by decide) ?_
        rintro _ h_313 σ_314 m_315 ⟨rfl, K_316, d, S2, gd, sd⟩
        replace sq := m_315 _ sq
        replace sb := m_315 _ sb
        refine Road.pop 8 bSam_d8 ?_
        exact J9_0_16 h_313 σ_314 d (t ++ ns) (K.trans K_316 (by intro z hz; simp only [List.mem_cons, List.not_mem_nil, or_false] at hz; rcases hz with rfl | rfl; exact Or.inl (by simp); exact gb.imp (fun q => by rw [q]; simp) id)) S2 sq sd (gd.elim (fun z => by rw [z]; exact gb) (fun z => Or.inr (Nat.le_trans K.1 z))) (by rw [← ht]; simp only [List.append_assoc, List.cons_append, List.nil_append])
      · skip
        refine Road.callV (B' := bSs001) (a := q) 5 (argsL := [(.ref n)]) (rest := []) "java/lang/StringBuilder" 0 bSam_d5 (wI hw 70 rfl) (wI hw 71 rfl) (fun vm hz => Road.notFace_sib (args := #[]) (mv (s := D.s.setVm vm) hz (wI hw 73 rfl)) rfl) (wI hw 73 rfl) (wI hw 72 rfl) (wI hw 47 rfl) (wI hw 74 rfl) (by decide) S.1 (cSs001 l Z a0 hw n0 hEW q b t 16 n nd ns h τ S U (by omega) (by omega) q_n q_nd nn nnd sb sq cp Hc hcp fm hfm Hf H0 H1 H2) (lenOf bSs001_pd rfl) rfl rfl rfl (by decide) (by decide) (ce' := 1) (sl' := 68) rfl rfl (by decide) (by decide) ?_
        rintro _ h_319 σ_320 m_321 ⟨rfl, K_322, d, S2, gd, sd⟩
        replace sq := m_321 _ sq
        replace sb := m_321 _ sb
        rw [show max (t.length + ns.length) (2 * 16 + 2) = 34 from by omega] at S2
        refine Road.pop 8 bSam_d8 ?_
        exact J9_0_34 h_319 σ_320 d (t ++ ns) (K.trans K_322 (by intro z hz; simp only [List.mem_cons, List.not_mem_nil, or_false] at hz; rcases hz with rfl | rfl; exact Or.inl (by simp); exact gb.imp (fun q => by rw [q]; simp) id)) S2 sq sd (gd.elim (fun z => by rw [z]; exact gb) (fun z => Or.inr (Nat.le_trans K.1 z))) (by rw [← ht]; simp only [List.append_assoc, List.cons_append, List.nil_append])
    · skip
      replace U := U.keep K (ninS q_n (ninS b_n nin0)) (ninS q_nd (ninS b_nd nin0))
      by_cases hm : t.length + ns.length ≤ 16
      · skip
        refine Road.callV (B' := bSs010) (a := q) 5 (argsL := [(.ref n)]) (rest := []) "java/lang/StringBuilder" 0 bSam_d5 (wI hw 70 rfl) (wI hw 71 rfl) (fun vm hz => Road.notFace_sib (args := #[]) (mv (s := D.s.setVm vm) hz (wI hw 73 rfl)) rfl) (wI hw 73 rfl) (wI hw 72 rfl) (wI hw 47 rfl) (wI hw 74 rfl) (by decide) S.1 (cSs010 l Z a0 hw n0 hEW q b t 16 n nd ns h τ S U hm (by omega) q_n q_nd nn nnd sb sq cp Hc hcp fm hfm Hf H0 H1 H2) (lenOf bSs010_pd rfl) rfl rfl rfl (by decide) (by decide) (ce' := 1) (sl' := 68) rfl rfl (by decide) (by decide) ?_
        rintro _ h_325 σ_326 m_327 ⟨rfl, K_328, d, S2, gd, sd⟩
        replace sq := m_327 _ sq
        replace sb := m_327 _ sb
        refine Road.pop 8 bSam_d8 ?_
        exact J9_1_16 h_325 σ_326 d (t ++ ns) (K.trans K_328 (by intro z hz; simp only [List.mem_cons, List.not_mem_nil, or_false] at hz; rcases hz with rfl | rfl; exact Or.inl (by simp); exact gb.imp (fun q => by rw [q]; simp) id)) S2 sq sd (gd.elim (fun z => by rw [z]; exact gb) (fun z => Or.inr (Nat.le_trans K.1 z))) (by rw [← ht]; simp only [List.append_assoc, List.cons_append, List.nil_append])
      · skip
        refine Road.callV (B' := bSs011) (a := q) 5 (argsL := [(.ref n)]) (rest := []) "java/lang/StringBuilder" 0 bSam_d5 (wI hw 70 rfl) (wI hw 71 rfl) (fun vm hz => Road.notFace_sib (args := #[]) (mv (s := D.s.setVm vm) hz (wI hw 73 rfl)) rfl) (wI hw 73 rfl) (wI hw 72 rfl) (wI hw 47 rfl) (wI hw 74 rfl) (by decide) S.1 (cSs011 l Z a0 hw n0 hEW q b t 16 n nd ns h τ S U (by omega) (by omega) q_n q_nd nn nnd sb sq cp Hc hcp fm hfm Hf H0 H1 H2) (lenOf bSs011_pd rfl) rfl rfl rfl (by decide) (by decide) (ce' := 2) (sl' := 136) rfl rfl (by decide) (by decide) ?_
        rintro _ h_331 σ_332 m_333 ⟨rfl, K_334, d, S2, gd, sd⟩
        replace sq := m_333 _ sq
        replace sb := m_333 _ sb
        rw [show max (t.length + ns.length) (2 * 16 + 2) = 34 from by omega] at S2
        refine Road.pop 8 bSam_d8 ?_
        exact J9_1_34 h_331 σ_332 d (t ++ ns) (K.trans K_334 (by intro z hz; simp only [List.mem_cons, List.not_mem_nil, or_false] at hz; rcases hz with rfl | rfl; exact Or.inl (by simp); exact gb.imp (fun q => by rw [q]; simp) id)) S2 sq sd (gd.elim (fun z => by rw [z]; exact gb) (fun z => Or.inr (Nat.le_trans K.1 z))) (by rw [← ht]; simp only [List.append_assoc, List.cons_append, List.nil_append])
  have J0_0_34 : ∀ (h : Heap) (τ : Addr → Prop) (b : Addr) (t : List Int32), Keep h0 h [q, b0] → Road.Sb0 Z h q b t 34 → τ q → τ b → (b = b0 ∨ h0.size ≤ b) → t ++ (ns ++ ((if ls = [] then ([] : List Int32) else [123] ++ ls ++ [125]) ++ ([32] ++ (vs ++ [10])))) = XX → Road.Go l Z a0 consts_1 n0 false bSam D (fun r h2 s2 => r = none ∧ Keep h0 h2 [q, b0] ∧ ∃ d N', (Road.Sb0 Z h2 q d XX N' ∨ Road.Sb1 Z h2 q d XX N') ∧ (N' = 16 ∨ N' = 34) ∧ (d = b0 ∨ h0.size ≤ d) ∧ s2 q ∧ s2 d) h τ 1 68 0 #[.val (.ref e), .val (.ref n), .val (.ref y), .val (.ref v)] [] := by
    intro h τ b t K S sq sb gb ht
    have hl := congrArg List.length ht
    simp only [List.length_append, List.length_cons, List.length_nil] at hl
    obtain ⟨ne, nn, nnd, ny, nyd, nv, nvd⟩ := nb b gb
    refine Road.aloadN 0 bSam_d0 rfl ?_
    refine Road.getfield 1 bSam_d1 (wI hw 63 rfl) Via.refl (Fe.keep K (ninS q_e (ninS b_e nin0))) ?_
    refine Road.aloadN 4 bSam_d4 rfl ?_
    rcases Tn with U | U
    · skip
      replace U := U.keep K (ninS q_n (ninS b_n nin0)) (ninS q_nd (ninS b_nd nin0))
      refine Road.callV (B' := bSs000) (a := q) 5 (argsL := [(.ref n)]) (rest := []) "java/lang/StringBuilder" 0 bSam_d5 (wI hw 70 rfl) (wI hw 71 rfl) (fun vm hz => Road.notFace_sib (args := #[]) (mv (s := D.s.setVm vm) hz (wI hw 73 rfl)) rfl) (wI hw 73 rfl) (wI hw 72 rfl) (wI hw 47 rfl) (wI hw 74 rfl) (by decide) S.1 (cSs000 l Z a0 hw n0 hEW q b t 34 n nd ns h τ S U (by omega) (by omega) q_n q_nd nn nnd sb sq cp Hc hcp fm hfm Hf H0 H1 H2) (lenOf bSs000_pd rfl) rfl rfl rfl (by decide) (by decide) (ce' := 1) (sl' := 68) rfl rfl (by decide) (by decide) ?_
      rintro _ h_337 σ_338 m_339 ⟨rfl, K_340, d, S2, gd, sd⟩
      replace sq := m_339 _ sq
      replace sb := m_339 _ sb
      refine Road.pop 8 bSam_d8 ?_
      exact J9_0_34 h_337 σ_338 d (t ++ ns) (K.trans K_340 (by intro z hz; simp only [List.mem_cons, List.not_mem_nil, or_false] at hz; rcases hz with rfl | rfl; exact Or.inl (by simp); exact gb.imp (fun q => by rw [q]; simp) id)) S2 sq sd (gd.elim (fun z => by rw [z]; exact gb) (fun z => Or.inr (Nat.le_trans K.1 z))) (by rw [← ht]; simp only [List.append_assoc, List.cons_append, List.nil_append])
    · skip
      replace U := U.keep K (ninS q_n (ninS b_n nin0)) (ninS q_nd (ninS b_nd nin0))
      refine Road.callV (B' := bSs010) (a := q) 5 (argsL := [(.ref n)]) (rest := []) "java/lang/StringBuilder" 0 bSam_d5 (wI hw 70 rfl) (wI hw 71 rfl) (fun vm hz => Road.notFace_sib (args := #[]) (mv (s := D.s.setVm vm) hz (wI hw 73 rfl)) rfl) (wI hw 73 rfl) (wI hw 72 rfl) (wI hw 47 rfl) (wI hw 74 rfl) (by decide) S.1 (cSs010 l Z a0 hw n0 hEW q b t 34 n nd ns h τ S U (by omega) (by omega) q_n q_nd nn nnd sb sq cp Hc hcp fm hfm Hf H0 H1 H2) (lenOf bSs010_pd rfl) rfl rfl rfl (by decide) (by decide) (ce' := 2) (sl' := 136) rfl rfl (by decide) (by decide) ?_
      rintro _ h_343 σ_344 m_345 ⟨rfl, K_346, d, S2, gd, sd⟩
      replace sq := m_345 _ sq
      replace sb := m_345 _ sb
      refine Road.pop 8 bSam_d8 ?_
      exact J9_1_34 h_343 σ_344 d (t ++ ns) (K.trans K_346 (by intro z hz; simp only [List.mem_cons, List.not_mem_nil, or_false] at hz; rcases hz with rfl | rfl; exact Or.inl (by simp); exact gb.imp (fun q => by rw [q]; simp) id)) S2 sq sd (gd.elim (fun z => by rw [z]; exact gb) (fun z => Or.inr (Nat.le_trans K.1 z))) (by rw [← ht]; simp only [List.append_assoc, List.cons_append, List.nil_append])
  have J0_1_16 : ∀ (h : Heap) (τ : Addr → Prop) (b : Addr) (t : List Int32), Keep h0 h [q, b0] → Road.Sb1 Z h q b t 16 → τ q → τ b → (b = b0 ∨ h0.size ≤ b) → t ++ (ns ++ ((if ls = [] then ([] : List Int32) else [123] ++ ls ++ [125]) ++ ([32] ++ (vs ++ [10])))) = XX → Road.Go l Z a0 consts_1 n0 false bSam D (fun r h2 s2 => r = none ∧ Keep h0 h2 [q, b0] ∧ ∃ d N', (Road.Sb0 Z h2 q d XX N' ∨ Road.Sb1 Z h2 q d XX N') ∧ (N' = 16 ∨ N' = 34) ∧ (d = b0 ∨ h0.size ≤ d) ∧ s2 q ∧ s2 d) h τ 1 68 0 #[.val (.ref e), .val (.ref n), .val (.ref y), .val (.ref v)] [] := by
    intro h τ b t K S sq sb gb ht
    have hl := congrArg List.length ht
    simp only [List.length_append, List.length_cons, List.length_nil] at hl
    obtain ⟨ne, nn, nnd, ny, nyd, nv, nvd⟩ := nb b gb
    refine Road.aloadN 0 bSam_d0 rfl ?_
    refine Road.getfield 1 bSam_d1 (wI hw 63 rfl) Via.refl (Fe.keep K (ninS q_e (ninS b_e nin0))) ?_
    refine Road.aloadN 4 bSam_d4 rfl ?_
    rcases Tn with U | U
    · skip
      replace U := U.keep K (ninS q_n (ninS b_n nin0)) (ninS q_nd (ninS b_nd nin0))
      by_cases hm : t.length + ns.length ≤ 16
      · skip
        refine Road.callV (B' := bSs100) (a := q) 5 (argsL := [(.ref n)]) (rest := []) "java/lang/StringBuilder" 0 bSam_d5 (wI hw 70 rfl) (wI hw 71 rfl) (fun vm hz => Road.notFace_sib (args := #[]) (mv (s := D.s.setVm vm) hz (wI hw 73 rfl)) rfl) (wI hw 73 rfl) (wI hw 72 rfl) (wI hw 47 rfl) (wI hw 74 rfl) (by decide) S.1 (cSs100 l Z a0 hw n0 hEW q b t 16 n nd ns h τ S U hm (by omega) q_n q_nd nn nnd sb sq cp Hc hcp fm hfm Hf H0 H1 H2) (lenOf bSs100_pd rfl) rfl rfl rfl (by decide) (by decide) (ce' := 1) (sl' := 68) rfl rfl (by decide) (by decide) ?_
        rintro _ h_349 σ_350 m_351 ⟨rfl, K_352, d, S2, gd, sd⟩
        replace sq := m_351 _ sq
        replace sb := m_351 _ sb
        refine Road.pop 8 bSam_d8 ?_
        exact J9_1_16 h_349 σ_350 d (t ++ ns) (K.trans K_352 (by intro z hz; simp only [List.mem_cons, List.not_mem_nil, or_false] at hz; rcases hz with rfl | rfl; exact Or.inl (by simp); exact gb.imp (fun q => by rw [q]; simp) id)) S2 sq sd (gd.elim (fun z => by rw [z]; exact gb) (fun z => Or.inr (Nat.le_trans K.1 z))) (by rw [← ht]; simp only [List.append_assoc, List.cons_append, List.nil_append])
      · skip
        refine Road.callV (B' := bSs101) (a := q) 5 (argsL := [(.ref n)]) (rest := []) "java/lang/StringBuilder" 0 bSam_d5 (wI hw 70 rfl) (wI hw 71 rfl) (fun vm hz => Road.notFace_sib (args := #[]) (mv (s := D.s.setVm vm) hz (wI hw 73 rfl)) rfl) (wI hw 73 rfl) (wI hw 72 rfl) (wI hw 47 rfl) (wI hw 74 rfl) (by decide) S.1 (cSs101 l Z a0 hw n0 hEW q b t 16 n nd ns h τ S U (by omega) (by omega) q_n q_nd nn nnd sb sq cp Hc hcp fm hfm Hf H0 H1 H2) (lenOf bSs101_pd rfl) rfl rfl rfl (by decide) (by decide) (ce' := 2) (sl' := 136) rfl rfl (by decide) (by decide) ?_
        rintro _ h_355 σ_356 m_357 ⟨rfl, K_358, d, S2, gd, sd⟩
        replace sq := m_357 _ sq
        replace sb := m_357 _ sb
        rw [show max (t.length + ns.length) (2 * 16 + 2) = 34 from by omega] at S2
        refine Road.pop 8 bSam_d8 ?_
        exact J9_1_34 h_355 σ_356 d (t ++ ns) (K.trans K_358 (by intro z hz; simp only [List.mem_cons, List.not_mem_nil, or_false] at hz; rcases hz with rfl | rfl; exact Or.inl (by simp); exact gb.imp (fun q => by rw [q]; simp) id)) S2 sq sd (gd.elim (fun z => by rw [z]; exact gb) (fun z => Or.inr (Nat.le_trans K.1 z))) (by rw [← ht]; simp only [List.append_assoc, List.cons_append, List.nil_append])
    · skip
      replace U := U.keep K (ninS q_n (ninS b_n nin0)) (ninS q_nd (ninS b_nd nin0))
      by_cases hm : t.length + ns.length ≤ 16
      · skip
        refine Road.callV (B' := bSs110) (a := q) 5 (argsL := [(.ref n)]) (rest := []) "java/lang/StringBuilder" 0 bSam_d5 (wI hw 70 rfl) (wI hw 71 rfl) (fun vm hz => Road.notFace_sib (args := #[]) (mv (s := D.s.setVm vm) hz (wI hw 73 rfl)) rfl) (wI hw 73 rfl) (wI hw 72 rfl) (wI hw 47 rfl) (wI hw 74 rfl) (by decide) S.1 (cSs110 l Z a0 hw n0 hEW q b t 16 n nd ns h τ S U hm (by omega) q_n q_nd nn nnd sb sq cp Hc hcp fm hfm Hf H0 H1 H2) (lenOf bSs110_pd rfl) rfl rfl rfl (by decide) (by decide) (ce' := 1) (sl' := 68) rfl rfl (by decide) (by decide) ?_
        rintro _ h_361 σ_362 m_363 ⟨rfl, K_364, d, S2, gd, sd⟩
        replace sq := m_363 _ sq
        replace sb := m_363 _ sb
        refine Road.pop 8 bSam_d8 ?_
        exact J9_1_16 h_361 σ_362 d (t ++ ns) (K.trans K_364 (by intro z hz; simp only [List.mem_cons, List.not_mem_nil, or_false] at hz; rcases hz with rfl | rfl; exact Or.inl (by simp); exact gb.imp (fun q => by rw [q]; simp) id)) S2 sq sd (gd.elim (fun z => by rw [z]; exact gb) (fun z => Or.inr (Nat.le_trans K.1 z))) (by rw [← ht]; simp only [List.append_assoc, List.cons_append, List.nil_append])
      · skip
        refine Road.callV (B' := bSs111) (a := q) 5 (argsL := [(.ref n)]) (rest := []) "java/lang/StringBuilder" 0 bSam_d5 (wI hw 70 rfl) (wI hw 71 rfl) (fun vm hz => Road.notFace_sib (args := #[]) (mv (s := D.s.setVm vm) hz (wI hw 73 rfl)) rfl) (wI hw 73 rfl) (wI hw 72 rfl) (wI hw 47 rfl) (wI hw 74 rfl) (by decide) S.1 (cSs111 l Z a0 hw n0 hEW q b t 16 n nd ns h τ S U (by omega) (by omega) q_n q_nd nn nnd sb sq cp Hc hcp fm hfm Hf H0 H1 H2) (lenOf bSs111_pd rfl) rfl rfl rfl (by decide) (by decide) (ce' := 2) (sl' := 136) rfl rfl (by decide) (by decide) ?_
        rintro _ h_367 σ_368 m_369 ⟨rfl, K_370, d, S2, gd, sd⟩
        replace sq := m_369 _ sq
        replace sb := m_369 _ sb
        rw [show max (t.length + ns.length) (2 * 16 + 2) = 34 from by omega] at S2
        refine Road.pop 8 bSam_d8 ?_
        exact J9_1_34 h_367 σ_368 d (t ++ ns) (K.trans K_370 (by intro z hz; simp only [List.mem_cons, List.not_mem_nil, or_false] at hz; rcases hz with rfl | rfl; exact Or.inl (by simp); exact gb.imp (fun q => by rw [q]; simp) id)) S2 sq sd (gd.elim (fun z => by rw [z]; exact gb) (fun z => Or.inr (Nat.le_trans K.1 z))) (by rw [← ht]; simp only [List.append_assoc, List.cons_append, List.nil_append])
  have J0_1_34 : ∀ (h : Heap) (τ : Addr → Prop) (b : Addr) (t : List Int32), Keep h0 h [q, b0] → Road.Sb1 Z h q b t 34 → τ q → τ b → (b = b0 ∨ h0.size ≤ b) → t ++ (ns ++ ((if ls = [] then ([] : List Int32) else [123] ++ ls ++ [125]) ++ ([32] ++ (vs ++ [10])))) = XX → Road.Go l Z a0 consts_1 n0 false bSam D (fun r h2 s2 => r = none ∧ Keep h0 h2 [q, b0] ∧ ∃ d N', (Road.Sb0 Z h2 q d XX N' ∨ Road.Sb1 Z h2 q d XX N') ∧ (N' = 16 ∨ N' = 34) ∧ (d = b0 ∨ h0.size ≤ d) ∧ s2 q ∧ s2 d) h τ 2 136 0 #[.val (.ref e), .val (.ref n), .val (.ref y), .val (.ref v)] [] := by
    intro h τ b t K S sq sb gb ht
    have hl := congrArg List.length ht
    simp only [List.length_append, List.length_cons, List.length_nil] at hl
    obtain ⟨ne, nn, nnd, ny, nyd, nv, nvd⟩ := nb b gb
    refine Road.aloadN 0 bSam_d0 rfl ?_
    refine Road.getfield 1 bSam_d1 (wI hw 63 rfl) Via.refl (Fe.keep K (ninS q_e (ninS b_e nin0))) ?_
    refine Road.aloadN 4 bSam_d4 rfl ?_
    rcases Tn with U | U
    · skip
      replace U := U.keep K (ninS q_n (ninS b_n nin0)) (ninS q_nd (ninS b_nd nin0))
      refine Road.callV (B' := bSs100) (a := q) 5 (argsL := [(.ref n)]) (rest := []) "java/lang/StringBuilder" 0 bSam_d5 (wI hw 70 rfl) (wI hw 71 rfl) (fun vm hz => Road.notFace_sib (args := #[]) (mv (s := D.s.setVm vm) hz (wI hw 73 rfl)) rfl) (wI hw 73 rfl) (wI hw 72 rfl) (wI hw 47 rfl) (wI hw 74 rfl) (by decide) S.1 (cSs100 l Z a0 hw n0 hEW q b t 34 n nd ns h τ S U (by omega) (by omega) q_n q_nd nn nnd sb sq cp Hc hcp fm hfm Hf H0 H1 H2) (lenOf bSs100_pd rfl) rfl rfl rfl (by decide) (by decide) (ce' := 2) (sl' := 136) rfl rfl (by decide) (by decide) ?_
      rintro _ h_373 σ_374 m_375 ⟨rfl, K_376, d, S2, gd, sd⟩
      replace sq := m_375 _ sq
      replace sb := m_375 _ sb
      refine Road.pop 8 bSam_d8 ?_
      exact J9_1_34 h_373 σ_374 d (t ++ ns) (K.trans K_376 (by intro z hz; simp only [List.mem_cons, List.not_mem_nil, or_false] at hz; rcases hz with rfl | rfl; exact Or.inl (by simp); exact gb.imp (fun q => by rw [q]; simp) id)) S2 sq sd (gd.elim (fun z => by rw [z]; exact gb) (fun z => Or.inr (Nat.le_trans K.1 z))) (by rw [← ht]; simp only [List.append_assoc, List.cons_append, List.nil_append])
    · skip
      replace U := U.keep K (ninS q_n (ninS b_n nin0)) (ninS q_nd (ninS b_nd nin0))
      refine Road.callV (B' := bSs110) (a := q) 5 (argsL := [(.ref n)]) (rest := []) "java/lang/StringBuilder" 0 bSam_d5 (wI hw 70 rfl) (wI hw 71 rfl) (fun vm hz => Road.notFace_sib (args := #[]) (mv (s := D.s.setVm vm) hz (wI hw 73 rfl)) rfl) (wI hw 73 rfl) (wI hw 72 rfl) (wI hw 47 rfl) (wI hw 74 rfl) (by decide) S.1 (cSs110 l Z a0 hw n0 hEW q b t 34 n nd ns h τ S U (by omega) (by omega) q_n q_nd nn nnd sb sq cp Hc hcp fm hfm Hf H0 H1 H2) (lenOf bSs110_pd rfl) rfl rfl rfl (by decide) (by decide) (ce' := 2) (sl' := 136) rfl rfl (by decide) (by decide) ?_
      rintro _ h_379 σ_380 m_381 ⟨rfl, K_382, d, S2, gd, sd⟩
      replace sq := m_381 _ sq
      replace sb := m_381 _ sb
      refine Road.pop 8 bSam_d8 ?_
      exact J9_1_34 h_379 σ_380 d (t ++ ns) (K.trans K_382 (by intro z hz; simp only [List.mem_cons, List.not_mem_nil, or_false] at hz; rcases hz with rfl | rfl; exact Or.inl (by simp); exact gb.imp (fun q => by rw [q]; simp) id)) S2 sq sd (gd.elim (fun z => by rw [z]; exact gb) (fun z => Or.inr (Nat.le_trans K.1 z))) (by rw [← ht]; simp only [List.append_assoc, List.cons_append, List.nil_append])
  rcases S with S | S <;> rcases hN with rfl | rfl
  · skip
    exact Road.Go.weaken (σ' := σ) (fun _ q => q) (ce' := 0) (sl' := 0) (by decide) (by decide) (J0_0_16 h0 σ b0 cs (Keep.refl _ _) S sq sb_ (Or.inl rfl) hXX.symm)
  · skip
    exact Road.Go.weaken (σ' := σ) (fun _ q => q) (ce' := 1) (sl' := 68) (by decide) (by decide) (J0_0_34 h0 σ b0 cs (Keep.refl _ _) S sq sb_ (Or.inl rfl) hXX.symm)
  · skip
    exact Road.Go.weaken (σ' := σ) (fun _ q => q) (ce' := 1) (sl' := 68) (by decide) (by decide) (J0_1_16 h0 σ b0 cs (Keep.refl _ _) S sq sb_ (Or.inl rfl) hXX.symm)
  · skip
    exact Road.Go.weaken (σ' := σ) (fun _ q => q) (ce' := 2) (sl' := 136) (by decide) (by decide) (J0_1_34 h0 σ b0 cs (Keep.refl _ _) S sq sb_ (Or.inl rfl) hXX.symm)
def bTxt : Road.Bdy := (⟨"com/example/meerkat/meerkat/metrics/Exposition", "text", "()Ljava/lang/String;"⟩, prog_10_method_4_code, 1, (some (.object "java/lang/String")), { frames := 6, cells := 2, slots := 72, locals := 95 })
theorem bTxt_d0 : decode bTxt.bs 0 = .ok (.aload_n 0, 1) := by decide +kernel
theorem bTxt_d1 : decode bTxt.bs 1 = .ok (.getfield 10, 3) := by decide +kernel
theorem bTxt_d4 : decode bTxt.bs 4 = .ok (.invokevirtual 37, 3) := by decide +kernel
theorem bTxt_d7 : decode bTxt.bs 7 = .ok (.areturn, 1) := by decide +kernel
theorem bTxt_pd : parseMethodDescriptor "()Ljava/lang/String;" = some ⟨[], (some (.object "java/lang/String"))⟩ := by decide +kernel
theorem bTxt_pn : plainFor bTxt.y = true := plainFor_of_name (show plainName "com/example/meerkat/meerkat/metrics/Exposition" = true from by first | (simp [plainName, overriddenIn]; done) | decide +kernel)
theorem cTxt (l : Launch) (Z : State) (a0 : Array Value) (hw : ∀ d ∈ tables_1, d.before a0 Z = true) (n0 : Nat) (hEW : EW Z a0 consts_1) (e q b : Addr) (cs : List Int32) (N : Nat) (h0 : Heap) (σ : Addr → Prop) (Fe : Fld Z h0 e "com/example/meerkat/meerkat/metrics/Exposition" "text" "Ljava/lang/StringBuilder;" (.ref q)) (S : Road.Sb0 Z h0 q b cs N ∨ Road.Sb1 Z h0 q b cs N) (hN : N = 16 ∨ N = 34) (hcs : cs.length ≤ 20) (hpos : 0 < cs.length) (cp : Int32) (Hc : Sta Z Z.heap Road.SN "COMPACT_STRINGS" "Z" (.int cp)) (hcp : ¬ cp = 0) :
    Road.Con l Z consts_1 n0 false bTxt [] σ #[(.ref e)] h0 (fun r h2 s2 => ∃ a d, r = some (.ref a) ∧ Keep h0 h2 [] ∧ Road.StrX Z h2 a d cs) := by
  refine Road.Con.of bTxt_pn hEW #[.val (.ref e)] (fun m => Road.ent (Road.laid1 rfl Road.laid0) (k := 0) rfl rfl) ?_
  intro D hD
  refine Road.aloadN 0 bTxt_d0 rfl ?_
  refine Road.getfield 1 bTxt_d1 (wI hw 63 rfl) Via.refl Fe ?_
  rcases S with S | S
  · skip
    have hle := S.le
    by_cases hm : cs.length = N
    · skip
      refine Road.callV (B' := bTo01) (a := q) 4 (argsL := []) (rest := []) "java/lang/StringBuilder" 0 bTxt_d4 (wI hw 145 rfl) (wI hw 146 rfl) (fun vm hz => Road.notFace_sib (args := #[]) (mv (s := D.s.setVm vm) hz (wI hw 73 rfl)) rfl) (wI hw 148 rfl) (wI hw 147 rfl) (wI hw 47 rfl) (wI hw 149 rfl) (by decide) S.1 (cTo01 l Z a0 hw n0 hEW q b cs N h0 σ S hm (by omega) cp Hc hcp) (lenOf bTo01_pd rfl) rfl rfl rfl (by decide) (by decide) (ce' := 2) (sl' := 72) rfl rfl (by decide) (by decide) ?_
      rintro _ h_1 σ_2 m_3 ⟨a, d, rfl, -, -, K_4, T⟩
      exact Road.aret 7 bTxt_d7 (t := (.object "java/lang/String")) rfl rfl rfl (by decide) (by decide) (fun σ' m => ⟨a, d, rfl, K_4, Or.inl T⟩)
    · skip
      refine Road.callV (B' := bTo00) (a := q) 4 (argsL := []) (rest := []) "java/lang/StringBuilder" 0 bTxt_d4 (wI hw 145 rfl) (wI hw 146 rfl) (fun vm hz => Road.notFace_sib (args := #[]) (mv (s := D.s.setVm vm) hz (wI hw 73 rfl)) rfl) (wI hw 148 rfl) (wI hw 147 rfl) (wI hw 47 rfl) (wI hw 149 rfl) (by decide) S.1 (cTo00 l Z a0 hw n0 hEW q b cs N h0 σ S (by omega) (by omega) cp Hc hcp) (lenOf bTo00_pd rfl) rfl rfl rfl (by decide) (by decide) (ce' := 2) (sl' := 72) rfl rfl (by decide) (by decide) ?_
      rintro _ h_5 σ_6 m_7 ⟨a, d, rfl, -, -, K_8, T⟩
      exact Road.aret 7 bTxt_d7 (t := (.object "java/lang/String")) rfl rfl rfl (by decide) (by decide) (fun σ' m => ⟨a, d, rfl, K_8, Or.inl T⟩)
  · skip
    have hle := S.le
    by_cases hm : cs.length = N
    · skip
      refine Road.callV (B' := bTo11) (a := q) 4 (argsL := []) (rest := []) "java/lang/StringBuilder" 0 bTxt_d4 (wI hw 145 rfl) (wI hw 146 rfl) (fun vm hz => Road.notFace_sib (args := #[]) (mv (s := D.s.setVm vm) hz (wI hw 73 rfl)) rfl) (wI hw 148 rfl) (wI hw 147 rfl) (wI hw 47 rfl) (wI hw 149 rfl) (by decide) S.1 (cTo11 l Z a0 hw n0 hEW q b cs N h0 σ S hm (by omega) hpos cp Hc hcp) (lenOf bTo11_pd rfl) rfl rfl rfl (by decide) (by decide) (ce' := 2) (sl' := 72) rfl rfl (by decide) (by decide) ?_
      rintro _ h_9 σ_10 m_11 ⟨a, d, rfl, -, -, K_12, T⟩
      exact Road.aret 7 bTxt_d7 (t := (.object "java/lang/String")) rfl rfl rfl (by decide) (by decide) (fun σ' m => ⟨a, d, rfl, K_12, Or.inr T⟩)
    · skip
      refine Road.callV (B' := bTo10) (a := q) 4 (argsL := []) (rest := []) "java/lang/StringBuilder" 0 bTxt_d4 (wI hw 145 rfl) (wI hw 146 rfl) (fun vm hz => Road.notFace_sib (args := #[]) (mv (s := D.s.setVm vm) hz (wI hw 73 rfl)) rfl) (wI hw 148 rfl) (wI hw 147 rfl) (wI hw 47 rfl) (wI hw 149 rfl) (by decide) S.1 (cTo10 l Z a0 hw n0 hEW q b cs N h0 σ S (by omega) (by omega) hpos cp Hc hcp) (lenOf bTo10_pd rfl) rfl rfl rfl (by decide) (by decide) (ce' := 2) (sl' := 72) rfl rfl (by decide) (by decide) ?_
      rintro _ h_13 σ_14 m_15 ⟨a, d, rfl, -, -, K_16, T⟩
      exact Road.aret 7 bTxt_d7 (t := (.object "java/lang/String")) rfl rfl rfl (by decide) (by decide) (fun σ' m => ⟨a, d, rfl, K_16, Or.inr T⟩)
def bMk : Road.Bdy := (⟨"com/example/meerkat/meerkat/metrics/ExpositionSamplePinLaw", "mk", "(II)Ljava/lang/String;"⟩, method_2_code, 4, (some (.object "java/lang/String")), { frames := 6, cells := 6, slots := 14, locals := 89 })
theorem bMk_d0 : decode bMk.bs 0 = .ok (.iload_n 0, 1) := by decide +kernel
theorem bMk_d1 : decode bMk.bs 1 = .ok (.ldc 7, 2) := by decide +kernel
theorem bMk_d3 : decode bMk.bs 3 = .ok (.iand, 1) := by decide +kernel
theorem bMk_d4 : decode bMk.bs 4 = .ok (.i2c, 1) := by decide +kernel
theorem bMk_d5 : decode bMk.bs 5 = .ok (.istore_n 2, 1) := by decide +kernel
theorem bMk_d6 : decode bMk.bs 6 = .ok (.iload_n 0, 1) := by decide +kernel
theorem bMk_d7 : decode bMk.bs 7 = .ok (.bipush 16, 2) := by decide +kernel
theorem bMk_d9 : decode bMk.bs 9 = .ok (.iushr, 1) := by decide +kernel
theorem bMk_d10 : decode bMk.bs 10 = .ok (.i2c, 1) := by decide +kernel
theorem bMk_d11 : decode bMk.bs 11 = .ok (.istore_n 3, 1) := by decide +kernel
theorem bMk_d12 : decode bMk.bs 12 = .ok (.iload_n 1, 1) := by decide +kernel
theorem bMk_d13 : decode bMk.bs 13 = .ok (.ifCond .ne 14, 3) := by decide +kernel
theorem bMk_d16 : decode bMk.bs 16 = .ok (.new 8, 3) := by decide +kernel
theorem bMk_d19 : decode bMk.bs 19 = .ok (.dup, 1) := by decide +kernel
theorem bMk_d20 : decode bMk.bs 20 = .ok (.iconst 0, 1) := by decide +kernel
theorem bMk_d21 : decode bMk.bs 21 = .ok (.newarray .char, 2) := by decide +kernel
theorem bMk_d23 : decode bMk.bs 23 = .ok (.invokespecial 10, 3) := by decide +kernel
theorem bMk_d26 : decode bMk.bs 26 = .ok (.areturn, 1) := by decide +kernel
theorem bMk_d27 : decode bMk.bs 27 = .ok (.iload_n 1, 1) := by decide +kernel
theorem bMk_d28 : decode bMk.bs 28 = .ok (.iconst 1, 1) := by decide +kernel
theorem bMk_d29 : decode bMk.bs 29 = .ok (.if_icmp .ne 18, 3) := by decide +kernel
theorem bMk_d32 : decode bMk.bs 32 = .ok (.new 8, 3) := by decide +kernel
theorem bMk_d35 : decode bMk.bs 35 = .ok (.dup, 1) := by decide +kernel
theorem bMk_d36 : decode bMk.bs 36 = .ok (.iconst 1, 1) := by decide +kernel
theorem bMk_d37 : decode bMk.bs 37 = .ok (.newarray .char, 2) := by decide +kernel
theorem bMk_d39 : decode bMk.bs 39 = .ok (.dup, 1) := by decide +kernel
theorem bMk_d40 : decode bMk.bs 40 = .ok (.iconst 0, 1) := by decide +kernel
theorem bMk_d41 : decode bMk.bs 41 = .ok (.iload_n 2, 1) := by decide +kernel
theorem bMk_d42 : decode bMk.bs 42 = .ok (.castore, 1) := by decide +kernel
theorem bMk_d43 : decode bMk.bs 43 = .ok (.invokespecial 10, 3) := by decide +kernel
theorem bMk_d46 : decode bMk.bs 46 = .ok (.areturn, 1) := by decide +kernel
theorem bMk_d47 : decode bMk.bs 47 = .ok (.new 8, 3) := by decide +kernel
theorem bMk_d50 : decode bMk.bs 50 = .ok (.dup, 1) := by decide +kernel
theorem bMk_d51 : decode bMk.bs 51 = .ok (.iconst 2, 1) := by decide +kernel
theorem bMk_d52 : decode bMk.bs 52 = .ok (.newarray .char, 2) := by decide +kernel
theorem bMk_d54 : decode bMk.bs 54 = .ok (.dup, 1) := by decide +kernel
theorem bMk_d55 : decode bMk.bs 55 = .ok (.iconst 0, 1) := by decide +kernel
theorem bMk_d56 : decode bMk.bs 56 = .ok (.iload_n 2, 1) := by decide +kernel
theorem bMk_d57 : decode bMk.bs 57 = .ok (.castore, 1) := by decide +kernel
theorem bMk_d58 : decode bMk.bs 58 = .ok (.dup, 1) := by decide +kernel
theorem bMk_d59 : decode bMk.bs 59 = .ok (.iconst 1, 1) := by decide +kernel
theorem bMk_d60 : decode bMk.bs 60 = .ok (.iload_n 3, 1) := by decide +kernel
theorem bMk_d61 : decode bMk.bs 61 = .ok (.castore, 1) := by decide +kernel
theorem bMk_d62 : decode bMk.bs 62 = .ok (.invokespecial 10, 3) := by decide +kernel
theorem bMk_d65 : decode bMk.bs 65 = .ok (.areturn, 1) := by decide +kernel
theorem bMk_pd : parseMethodDescriptor "(II)Ljava/lang/String;" = some ⟨[.int, .int], (some (.object "java/lang/String"))⟩ := by decide +kernel
theorem bMk_pn : plainFor bMk.y = true := plainFor_of_name (show plainName "com/example/meerkat/meerkat/metrics/ExpositionSamplePinLaw" = true from by first | (simp [plainName, overriddenIn]; done) | decide +kernel)
theorem cMk (l : Launch) (Z : State) (a0 : Array Value) (hw : ∀ d ∈ tables_1, d.before a0 Z = true) (n0 : Nat) (hEW : EW Z a0 consts_1) (p k : Int32) (h0 : Heap) (σ : Addr → Prop) (hk : k = 0 ∨ k = 1 ∨ k = 2) (cp : Int32) (Hc : Sta Z Z.heap Road.SN "COMPACT_STRINGS" "Z" (.int cp)) (hcp : ¬ cp = 0) (H0 : Sta Z Z.heap "java/lang/StringUTF16" "$assertionsDisabled" "Z" (.int 1)) (H1 : Sta Z Z.heap "java/lang/StringUTF16" "HI_BYTE_SHIFT" "I" (.int 0)) (H2 : Sta Z Z.heap "java/lang/StringUTF16" "LO_BYTE_SHIFT" "I" (.int 8)) :
    Road.Con l Z consts_1 n0 false bMk [] σ #[(.int p), (.int k)] h0 (fun r h2 s2 => ∃ a d cs, r = some (.ref a) ∧ Keep h0 h2 [] ∧ Road.StrX Z h2 a d cs ∧ cs.length ≤ 2) := by
  refine Road.Con.of bMk_pn hEW #[.val (.int p), .val (.int k), .unset, .unset] (fun m => Road.ent (Road.laid1 rfl (Road.laid1 rfl Road.laid0)) (k := 2) rfl rfl) ?_
  intro D hD
  have KT := Keep.refl h0 ([] : List Addr)
  refine Road.iloadN 0 bMk_d0 rfl ?_
  refine Road.ldcI 1 (v := (65535 : Int32)) bMk_d1 (wI hw 4 rfl) ?_
  refine Road.iand 3 bMk_d3 ?_
  refine Road.i2c 4 bMk_d4 ?_
  refine Road.nameI ?_
  intro c0 hc0
  have l0 : 0 ≤ c0.toInt ∧ c0.toInt < 65536 := by rw [hc0]; exact Road.chr16 _
  refine Road.istoreN 5 #[.val (.int p), .val (.int k), .val (.int c0), .unset] bMk_d5 rfl ?_
  refine Road.iloadN 6 bMk_d6 rfl ?_
  refine Road.bipush 7 (16 : Int32) bMk_d7 rfl ?_
  refine Road.iushr 9 bMk_d9 ?_
  refine Road.i2c 10 bMk_d10 ?_
  refine Road.nameI ?_
  intro c1 hc1
  have l1 : 0 ≤ c1.toInt ∧ c1.toInt < 65536 := by rw [hc1]; exact Road.chr16 _
  refine Road.istoreN 11 #[.val (.int p), .val (.int k), .val (.int c0), .val (.int c1)] bMk_d11 rfl ?_
  clear hc0 hc1
  rcases hk with rfl | rfl | rfl
  · skip
    refine Road.iloadN 12 bMk_d12 rfl ?_
    refine Road.if_ne 13 27 bMk_d13 rfl (fun q => absurd q (by decide)) (fun hc13 => ?_)
    refine Road.new 16 "java/lang/String" bMk_d16 (wI hw 5 rfl) (wI hw 6 rfl) (wI hw 7 rfl) (ce' := 1) (sl' := 4) rfl rfl (by decide) (by decide) ?_
    intro s h_1 σ_2 g_3 K_4 lt_5 m_6 s_7 Es D_8 M_9
    have gk_s := Nat.le_trans KT.1 (Nat.le_of_eq g_3.symm)
    replace KT := KT.trans K_4 (by simp)
    have Cs := D_8 (Or.inr (wI hw 32 rfl)) (ty := .byte) (by decide)
    have Vs := D_8 (Or.inr (wI hw 34 rfl)) (ty := (.array .byte)) (by decide)
    refine Road.dup 19 bMk_d19 ?_
    refine Road.iconst 20 (0 : Int32) bMk_d20 rfl ?_
    refine Road.newarray 21 .char 0 0 bMk_d21 rfl (wI hw 8 rfl) (by decide) (by decide) (by decide) (ce' := 2) (sl' := 4) rfl rfl (by decide) (by decide) ?_
    intro ar h_10 σ_11 g_12 K_13 lt_14 m_15 s_16 Ar
    have gk_ar := Nat.le_trans KT.1 (Nat.le_of_eq g_12.symm)
    have ne_s_ar : s ≠ ar := Nat.ne_of_lt (Nat.lt_of_lt_of_le Es.lt (Nat.le_of_eq g_12.symm))
    replace KT := KT.trans K_13 (by simp)
    replace Es := Es.keep K_13
    replace Cs := Cs.keep K_13 nin0
    replace Vs := Vs.keep K_13 nin0
    replace s_7 := m_15 _ s_7
    replace Ar : Road.Ary Z h_10 ar .char (([] : List Int32).map .int) := Ar
    refine Road.callI (B' := bStr1) (a := s) 23 (argsL := [(.ref ar)]) (rest := [(.ref s)]) 1 bMk_d23 (wI hw 9 rfl) (wI hw 10 rfl) (wI hw 7 rfl) (wI hw 11 rfl) rfl rfl (by decide) (cStr1 l Z a0 hw n0 hEW s ar ([] : List Int32) h_10 σ_11 Es Cs Vs Ar (by simp) (by simp) s_7 cp Hc hcp H0 H1 H2) (lenOf bStr1_pd rfl) rfl rfl rfl (by decide) (by decide) (ce' := 6) (sl' := 12) rfl rfl (by decide) (by decide) ?_
    rintro _ h_17 σ_18 m_19 ⟨rfl, K_20, d, T⟩
    replace KT := KT.trans K_20 (by intro z hz; simp only [List.mem_cons, List.not_mem_nil, or_false] at hz; rcases hz with rfl <;> first | (exact Or.inr (by assumption)) | (simp; done))
    replace s_7 := m_19 _ s_7
    replace s_16 := m_19 _ s_16
    exact Road.aret 26 bMk_d26 (t := (.object "java/lang/String")) rfl rfl rfl (by decide) (by decide) (fun σ' m => ⟨s, d, _, rfl, KT, T, by simp⟩)
  · skip
    refine Road.iloadN 12 bMk_d12 rfl ?_
    refine Road.if_ne 13 27 bMk_d13 rfl (fun hc13 => ?_) (fun q => absurd q (by decide))
    refine Road.iloadN 27 bMk_d27 rfl ?_
    refine Road.iconst 28 (1 : Int32) bMk_d28 rfl ?_
    refine Road.icmp_ne 29 47 bMk_d29 rfl (fun q => absurd q (by decide)) (fun hc29 => ?_)
    refine Road.new 32 "java/lang/String" bMk_d32 (wI hw 5 rfl) (wI hw 6 rfl) (wI hw 7 rfl) (ce' := 1) (sl' := 4) rfl rfl (by decide) (by decide) ?_
    intro s h_23 σ_24 g_25 K_26 lt_27 m_28 s_29 Es D_30 M_31
    have gk_s := Nat.le_trans KT.1 (Nat.le_of_eq g_25.symm)
    replace KT := KT.trans K_26 (by simp)
    have Cs := D_30 (Or.inr (wI hw 32 rfl)) (ty := .byte) (by decide)
    have Vs := D_30 (Or.inr (wI hw 34 rfl)) (ty := (.array .byte)) (by decide)
    refine Road.dup 35 bMk_d35 ?_
    refine Road.iconst 36 (1 : Int32) bMk_d36 rfl ?_
    refine Road.newarray 37 .char 1 1 bMk_d37 rfl (wI hw 8 rfl) (by decide) (by decide) (by decide) (ce' := 2) (sl' := 5) rfl rfl (by decide) (by decide) ?_
    intro ar h_32 σ_33 g_34 K_35 lt_36 m_37 s_38 Ar
    have gk_ar := Nat.le_trans KT.1 (Nat.le_of_eq g_34.symm)
    have ne_s_ar : s ≠ ar := Nat.ne_of_lt (Nat.lt_of_lt_of_le Es.lt (Nat.le_of_eq g_34.symm))
    replace KT := KT.trans K_35 (by simp)
    replace Es := Es.keep K_35
    replace Cs := Cs.keep K_35 nin0
    replace Vs := Vs.keep K_35 nin0
    replace s_29 := m_37 _ s_29
    refine Road.dup 39 bMk_d39 ?_
    refine Road.iconst 40 (0 : Int32) bMk_d40 rfl ?_
    refine Road.iloadN 41 bMk_d41 rfl ?_
    refine Road.castore 42 0 c0 bMk_d42 Ar (by decide) (by simp) (Road.nar16 l0) s_38 ?_
    intro h_39 K_40 A_41
    replace KT := KT.trans K_40 (by intro z hz; simp only [List.mem_cons, List.not_mem_nil, or_false] at hz; rcases hz with rfl <;> first | (exact Or.inr (by assumption)) | (simp; done))
    replace Es := Es.keep K_40
    replace Cs := Cs.keep K_40 (ninS ne_s_ar nin0)
    replace Vs := Vs.keep K_40 (ninS ne_s_ar nin0)
    replace Ar := A_41
    replace Ar : Road.Ary Z h_39 ar .char (([c0] : List Int32).map .int) := Ar
    refine Road.callI (B' := bStr1) (a := s) 43 (argsL := [(.ref ar)]) (rest := [(.ref s)]) 1 bMk_d43 (wI hw 9 rfl) (wI hw 10 rfl) (wI hw 7 rfl) (wI hw 11 rfl) rfl rfl (by decide) (cStr1 l Z a0 hw n0 hEW s ar ([c0] : List Int32) h_39 σ_33 Es Cs Vs Ar (by simp) (by intro c hc; cases List.mem_singleton.mp hc; exact l0) s_29 cp Hc hcp H0 H1 H2) (lenOf bStr1_pd rfl) rfl rfl rfl (by decide) (by decide) (ce' := 6) (sl' := 13) rfl rfl (by decide) (by decide) ?_
    rintro _ h_42 σ_43 m_44 ⟨rfl, K_45, d, T⟩
    replace KT := KT.trans K_45 (by intro z hz; simp only [List.mem_cons, List.not_mem_nil, or_false] at hz; rcases hz with rfl <;> first | (exact Or.inr (by assumption)) | (simp; done))
    replace s_29 := m_44 _ s_29
    replace s_38 := m_44 _ s_38
    exact Road.aret 46 bMk_d46 (t := (.object "java/lang/String")) rfl rfl rfl (by decide) (by decide) (fun σ' m => ⟨s, d, _, rfl, KT, T, by simp⟩)
  · skip
    refine Road.iloadN 12 bMk_d12 rfl ?_
    refine Road.if_ne 13 27 bMk_d13 rfl (fun hc13 => ?_) (fun q => absurd q (by decide))
    refine Road.iloadN 27 bMk_d27 rfl ?_
    refine Road.iconst 28 (1 : Int32) bMk_d28 rfl ?_
    refine Road.icmp_ne 29 47 bMk_d29 rfl (fun hc29 => ?_) (fun q => absurd q (by decide))
    refine Road.new 47 "java/lang/String" bMk_d47 (wI hw 5 rfl) (wI hw 6 rfl) (wI hw 7 rfl) (ce' := 1) (sl' := 4) rfl rfl (by decide) (by decide) ?_
    intro s h_48 σ_49 g_50 K_51 lt_52 m_53 s_54 Es D_55 M_56
    have gk_s := Nat.le_trans KT.1 (Nat.le_of_eq g_50.symm)
    replace KT := KT.trans K_51 (by simp)
    have Cs := D_55 (Or.inr (wI hw 32 rfl)) (ty := .byte) (by decide)
    have Vs := D_55 (Or.inr (wI hw 34 rfl)) (ty := (.array .byte)) (by decide)
    refine Road.dup 50 bMk_d50 ?_
    refine Road.iconst 51 (2 : Int32) bMk_d51 rfl ?_
    refine Road.newarray 52 .char 2 2 bMk_d52 rfl (wI hw 8 rfl) (by decide) (by decide) (by decide) (ce' := 2) (sl' := 6) rfl rfl (by decide) (by decide) ?_
    intro ar h_57 σ_58 g_59 K_60 lt_61 m_62 s_63 Ar
    have gk_ar := Nat.le_trans KT.1 (Nat.le_of_eq g_59.symm)
    have ne_s_ar : s ≠ ar := Nat.ne_of_lt (Nat.lt_of_lt_of_le Es.lt (Nat.le_of_eq g_59.symm))
    replace KT := KT.trans K_60 (by simp)
    replace Es := Es.keep K_60
    replace Cs := Cs.keep K_60 nin0
    replace Vs := Vs.keep K_60 nin0
    replace s_54 := m_62 _ s_54
    refine Road.dup 54 bMk_d54 ?_
    refine Road.iconst 55 (0 : Int32) bMk_d55 rfl ?_
    refine Road.iloadN 56 bMk_d56 rfl ?_
    refine Road.castore 57 0 c0 bMk_d57 Ar (by decide) (by simp) (Road.nar16 l0) s_63 ?_
    intro h_64 K_65 A_66
    replace KT := KT.trans K_65 (by intro z hz; simp only [List.mem_cons, List.not_mem_nil, or_false] at hz; rcases hz with rfl <;> first | (exact Or.inr (by assumption)) | (simp; done))
    replace Es := Es.keep K_65
    replace Cs := Cs.keep K_65 (ninS ne_s_ar nin0)
    replace Vs := Vs.keep K_65 (ninS ne_s_ar nin0)
    replace Ar := A_66
    refine Road.dup 58 bMk_d58 ?_
    refine Road.iconst 59 (1 : Int32) bMk_d59 rfl ?_
    refine Road.iloadN 60 bMk_d60 rfl ?_
    refine Road.castore 61 1 c1 bMk_d61 Ar (by decide) (by simp) (Road.nar16 l1) s_63 ?_
    intro h_67 K_68 A_69
    replace KT := KT.trans K_68 (by intro z hz; simp only [List.mem_cons, List.not_mem_nil, or_false] at hz; rcases hz with rfl <;> first | (exact Or.inr (by assumption)) | (simp; done))
    replace Es := Es.keep K_68
    replace Cs := Cs.keep K_68 (ninS ne_s_ar nin0)
    replace Vs := Vs.keep K_68 (ninS ne_s_ar nin0)
    replace Ar := A_69
    replace Ar : Road.Ary Z h_67 ar .char (([c0, c1] : List Int32).map .int) := Ar
    refine Road.callI (B' := bStr1) (a := s) 62 (argsL := [(.ref ar)]) (rest := [(.ref s)]) 1 bMk_d62 (wI hw 9 rfl) (wI hw 10 rfl) (wI hw 7 rfl) (wI hw 11 rfl) rfl rfl (by decide) (cStr1 l Z a0 hw n0 hEW s ar ([c0, c1] : List Int32) h_67 σ_58 Es Cs Vs Ar (by simp) (by intro c hc; simp only [List.mem_cons, List.not_mem_nil, or_false] at hc; rcases hc with rfl | rfl <;> assumption) s_54 cp Hc hcp H0 H1 H2) (lenOf bStr1_pd rfl) rfl rfl rfl (by decide) (by decide) (ce' := 6) (sl' := 14) rfl rfl (by decide) (by decide) ?_
    rintro _ h_70 σ_71 m_72 ⟨rfl, K_73, d, T⟩
    replace KT := KT.trans K_73 (by intro z hz; simp only [List.mem_cons, List.not_mem_nil, or_false] at hz; rcases hz with rfl <;> first | (exact Or.inr (by assumption)) | (simp; done))
    replace s_54 := m_72 _ s_54
    replace s_63 := m_72 _ s_63
    exact Road.aret 65 bMk_d65 (t := (.object "java/lang/String")) rfl rfl rfl (by decide) (by decide) (fun σ' m => ⟨s, d, _, rfl, KT, T, by simp⟩)
def bLen3 : Road.Bdy := (⟨"com/example/meerkat/meerkat/metrics/ExpositionSamplePinLaw", "len", "(Ljava/lang/String;Ljava/lang/String;Ljava/lang/String;)I"⟩, method_4_code, 3, (some .int), { frames := 2, cells := 0, slots := 0, locals := 26 })
theorem bLen3_d0 : decode bLen3.bs 0 = .ok (.aload_n 0, 1) := by decide +kernel
theorem bLen3_d1 : decode bLen3.bs 1 = .ok (.invokevirtual 13, 3) := by decide +kernel
theorem bLen3_d4 : decode bLen3.bs 4 = .ok (.aload_n 1, 1) := by decide +kernel
theorem bLen3_d5 : decode bLen3.bs 5 = .ok (.invokevirtual 21, 3) := by decide +kernel
theorem bLen3_d8 : decode bLen3.bs 8 = .ok (.ifCond .eq 7, 3) := by decide +kernel
theorem bLen3_d11 : decode bLen3.bs 11 = .ok (.iconst 0, 1) := by decide +kernel
theorem bLen3_d12 : decode bLen3.bs 12 = .ok (.goto 9, 3) := by decide +kernel
theorem bLen3_d15 : decode bLen3.bs 15 = .ok (.aload_n 1, 1) := by decide +kernel
theorem bLen3_d16 : decode bLen3.bs 16 = .ok (.invokevirtual 13, 3) := by decide +kernel
theorem bLen3_d19 : decode bLen3.bs 19 = .ok (.iconst 2, 1) := by decide +kernel
theorem bLen3_d20 : decode bLen3.bs 20 = .ok (.iadd, 1) := by decide +kernel
theorem bLen3_d21 : decode bLen3.bs 21 = .ok (.iadd, 1) := by decide +kernel
theorem bLen3_d22 : decode bLen3.bs 22 = .ok (.aload_n 2, 1) := by decide +kernel
theorem bLen3_d23 : decode bLen3.bs 23 = .ok (.invokevirtual 13, 3) := by decide +kernel
theorem bLen3_d26 : decode bLen3.bs 26 = .ok (.iadd, 1) := by decide +kernel
theorem bLen3_d27 : decode bLen3.bs 27 = .ok (.iconst 2, 1) := by decide +kernel
theorem bLen3_d28 : decode bLen3.bs 28 = .ok (.iadd, 1) := by decide +kernel
theorem bLen3_d29 : decode bLen3.bs 29 = .ok (.ireturn, 1) := by decide +kernel
theorem bLen3_pd : parseMethodDescriptor "(Ljava/lang/String;Ljava/lang/String;Ljava/lang/String;)I" = some ⟨[(.object "java/lang/String"), (.object "java/lang/String"), (.object "java/lang/String")], (some .int)⟩ := by decide +kernel
theorem bLen3_pn : plainFor bLen3.y = true := plainFor_of_name (show plainName "com/example/meerkat/meerkat/metrics/ExpositionSamplePinLaw" = true from by first | (simp [plainName, overriddenIn]; done) | decide +kernel)
theorem cLen3 (l : Launch) (Z : State) (a0 : Array Value) (hw : ∀ d ∈ tables_1, d.before a0 Z = true) (n0 : Nat) (hEW : EW Z a0 consts_1) (n nd y yd v vd : Addr) (ns ls vs : List Int32) (h0 : Heap) (σ : Addr → Prop) (Tn : Road.StrX Z h0 n nd ns) (hn : ns.length ≤ 2) (Ty : Road.StrX Z h0 y yd ls) (hy : ls.length ≤ 2) (Tv : Road.StrX Z h0 v vd vs) (hv : vs.length ≤ 2) (cp : Int32) (Hc : Sta Z Z.heap Road.SN "COMPACT_STRINGS" "Z" (.int cp)) (hcp : ¬ cp = 0) :
    Road.Con l Z consts_1 n0 false bLen3 [] σ #[(.ref n), (.ref y), (.ref v)] h0 (fun r h2 _ => r = some (.int (Nat.toInt32 (ns ++ ((if ls = [] then ([] : List Int32) else [123] ++ ls ++ [125]) ++ ([32] ++ (vs ++ [10])))).length)) ∧ h0 = h2) := by
  have En : Exa Z h0 n Road.SN := Tn.elim (fun q => q.1) (fun q => q.1)
  have Ey : Exa Z h0 y Road.SN := Ty.elim (fun q => q.1) (fun q => q.1)
  have Ev : Exa Z h0 v Road.SN := Tv.elim (fun q => q.1) (fun q => q.1)
  refine Road.Con.of bLen3_pn hEW #[.val (.ref n), .val (.ref y), .val (.ref v)] (fun m => Road.ent (Road.laid1 rfl (Road.laid1 rfl (Road.laid1 rfl Road.laid0))) (k := 0) rfl rfl) ?_
  intro D hD
  refine Road.aloadN 0 bLen3_d0 rfl ?_
  refine Road.callV (B' := bLnX) (a := n) 1 (argsL := []) (rest := []) "java/lang/String" 0 bLen3_d1 (wI hw 189 rfl) (wI hw 81 rfl) (fun vm hz => Road.notFace_sib (args := #[]) (mv (s := D.s.setVm vm) hz (wI hw 83 rfl)) rfl) (wI hw 83 rfl) (wI hw 82 rfl) (wI hw 7 rfl) (wI hw 84 rfl) (by decide) En (cLnX l Z a0 hw n0 hEW n nd ns h0 σ Tn cp Hc hcp) (lenOf bLnX_pd rfl) rfl rfl rfl (by decide) (by decide) (ce' := 0) (sl' := 0) rfl rfl (by decide) (by decide) ?_
  rintro _ h_1 σ_2 m_3 ⟨rfl, rfl⟩
  refine Road.Go.weaken (σ' := σ) m_3 (Nat.le_refl _) (Nat.le_refl _) ?_
  refine Road.aloadN 4 bLen3_d4 rfl ?_
  refine Road.callV (B' := bEmX) (a := y) 5 (argsL := []) (rest := [(.int (Nat.toInt32 ns.length))]) "java/lang/String" 1 bLen3_d5 (wI hw 190 rfl) (wI hw 118 rfl) (fun vm hz => Road.notFace_sib (args := #[]) (mv (s := D.s.setVm vm) hz (wI hw 83 rfl)) rfl) (wI hw 120 rfl) (wI hw 119 rfl) (wI hw 7 rfl) (wI hw 121 rfl) (by decide) Ey (cEmX l Z a0 hw n0 hEW y yd ls h0 σ Ty) (lenOf bEmX_pd rfl) rfl rfl rfl (by decide) (by decide) (ce' := 0) (sl' := 0) rfl rfl (by decide) (by decide) ?_
  rintro _ h_5 σ_6 m_7 ⟨rfl, rfl⟩
  refine Road.Go.weaken (σ' := σ) m_7 (Nat.le_refl _) (Nat.le_refl _) ?_
  by_cases hls : ls = []
  · skip
    refine Road.nameI ?_
    intro z_9 hz_9
    obtain rfl : z_9 = (1 : Int32) := by rw [hz_9]; rw [if_pos hls]
    refine Road.if_eq 8 15 bLen3_d8 rfl (fun q => absurd q (by decide)) (fun hc8 => ?_)
    refine Road.iconst 11 (0 : Int32) bLen3_d11 rfl ?_
    refine Road.goto 12 21 bLen3_d12 rfl ?_
    refine Road.iadd 21 bLen3_d21 ?_
    refine Road.aloadN 22 bLen3_d22 rfl ?_
    refine Road.callV (B' := bLnX) (a := v) 23 (argsL := []) (rest := [(.int ((Nat.toInt32 ns.length) + (0 : Int32)))]) "java/lang/String" 1 bLen3_d23 (wI hw 189 rfl) (wI hw 81 rfl) (fun vm hz => Road.notFace_sib (args := #[]) (mv (s := D.s.setVm vm) hz (wI hw 83 rfl)) rfl) (wI hw 83 rfl) (wI hw 82 rfl) (wI hw 7 rfl) (wI hw 84 rfl) (by decide) Ev (cLnX l Z a0 hw n0 hEW v vd vs h0 σ Tv cp Hc hcp) (lenOf bLnX_pd rfl) rfl rfl rfl (by decide) (by decide) (ce' := 0) (sl' := 0) rfl rfl (by decide) (by decide) ?_
    rintro _ h_10 σ_11 m_12 ⟨rfl, rfl⟩
    refine Road.Go.weaken (σ' := σ) m_12 (Nat.le_refl _) (Nat.le_refl _) ?_
    refine Road.iadd 26 bLen3_d26 ?_
    refine Road.iconst 27 (2 : Int32) bLen3_d27 rfl ?_
    refine Road.iadd 28 bLen3_d28 ?_
    refine Road.nameI ?_
    intro z_14 hz_14
    obtain rfl : z_14 = (Nat.toInt32 (ns ++ ((if ls = [] then ([] : List Int32) else [123] ++ ls ++ [125]) ++ ([32] ++ (vs ++ [10])))).length) := by rw [hz_14]; rw [if_pos hls]; simp only [show (2 : Int32) = Nat.toInt32 2 from rfl, show (0 : Int32) = Nat.toInt32 0 from rfl, Road.add32n]; congr 1; simp only [List.length_append, List.length_cons, List.length_nil]; omega
    exact Road.iretI 29 bLen3_d29 rfl (by decide) (by decide) (fun σ' m => ⟨rfl, rfl⟩)
  · skip
    refine Road.nameI ?_
    intro z_15 hz_15
    obtain rfl : z_15 = (0 : Int32) := by rw [hz_15]; rw [if_neg hls]
    refine Road.if_eq 8 15 bLen3_d8 rfl (fun hc8 => ?_) (fun q => absurd q (by decide))
    refine Road.aloadN 15 bLen3_d15 rfl ?_
    refine Road.callV (B' := bLnX) (a := y) 16 (argsL := []) (rest := [(.int (Nat.toInt32 ns.length))]) "java/lang/String" 1 bLen3_d16 (wI hw 189 rfl) (wI hw 81 rfl) (fun vm hz => Road.notFace_sib (args := #[]) (mv (s := D.s.setVm vm) hz (wI hw 83 rfl)) rfl) (wI hw 83 rfl) (wI hw 82 rfl) (wI hw 7 rfl) (wI hw 84 rfl) (by decide) Ey (cLnX l Z a0 hw n0 hEW y yd ls h0 σ Ty cp Hc hcp) (lenOf bLnX_pd rfl) rfl rfl rfl (by decide) (by decide) (ce' := 0) (sl' := 0) rfl rfl (by decide) (by decide) ?_
    rintro _ h_16 σ_17 m_18 ⟨rfl, rfl⟩
    refine Road.Go.weaken (σ' := σ) m_18 (Nat.le_refl _) (Nat.le_refl _) ?_
    refine Road.iconst 19 (2 : Int32) bLen3_d19 rfl ?_
    refine Road.iadd 20 bLen3_d20 ?_
    refine Road.iadd 21 bLen3_d21 ?_
    refine Road.aloadN 22 bLen3_d22 rfl ?_
    refine Road.callV (B' := bLnX) (a := v) 23 (argsL := []) (rest := [(.int ((Nat.toInt32 ns.length) + ((Nat.toInt32 ls.length) + (2 : Int32))))]) "java/lang/String" 1 bLen3_d23 (wI hw 189 rfl) (wI hw 81 rfl) (fun vm hz => Road.notFace_sib (args := #[]) (mv (s := D.s.setVm vm) hz (wI hw 83 rfl)) rfl) (wI hw 83 rfl) (wI hw 82 rfl) (wI hw 7 rfl) (wI hw 84 rfl) (by decide) Ev (cLnX l Z a0 hw n0 hEW v vd vs h0 σ Tv cp Hc hcp) (lenOf bLnX_pd rfl) rfl rfl rfl (by decide) (by decide) (ce' := 0) (sl' := 0) rfl rfl (by decide) (by decide) ?_
    rintro _ h_20 σ_21 m_22 ⟨rfl, rfl⟩
    refine Road.Go.weaken (σ' := σ) m_22 (Nat.le_refl _) (Nat.le_refl _) ?_
    refine Road.iadd 26 bLen3_d26 ?_
    refine Road.iconst 27 (2 : Int32) bLen3_d27 rfl ?_
    refine Road.iadd 28 bLen3_d28 ?_
    refine Road.nameI ?_
    intro z_24 hz_24
    obtain rfl : z_24 = (Nat.toInt32 (ns ++ ((if ls = [] then ([] : List Int32) else [123] ++ ls ++ [125]) ++ ([32] ++ (vs ++ [10])))).length) := by rw [hz_24]; rw [if_neg hls]; simp only [show (2 : Int32) = Nat.toInt32 2 from rfl, show (0 : Int32) = Nat.toInt32 0 from rfl, Road.add32n]; congr 1; simp only [List.length_append, List.length_cons, List.length_nil]; omega
    exact Road.iretI 29 bLen3_d29 rfl (by decide) (by decide) (fun σ' m => ⟨rfl, rfl⟩)
def bEqx : Road.Bdy := (⟨"com/example/meerkat/meerkat/metrics/ExpositionSamplePinLaw", "eq", "(Ljava/lang/String;ILjava/lang/String;)Z"⟩, method_3_code, 3, (some .boolean), { frames := 5, cells := 0, slots := 0, locals := 67 })
theorem bEqx_d0 : decode bEqx.bs 0 = .ok (.aload_n 2, 1) := by decide +kernel
theorem bEqx_d1 : decode bEqx.bs 1 = .ok (.invokevirtual 13, 3) := by decide +kernel
theorem bEqx_d4 : decode bEqx.bs 4 = .ok (.iconst 1, 1) := by decide +kernel
theorem bEqx_d5 : decode bEqx.bs 5 = .ok (.if_icmp .lt 18, 3) := by decide +kernel
theorem bEqx_d8 : decode bEqx.bs 8 = .ok (.aload_n 0, 1) := by decide +kernel
theorem bEqx_d9 : decode bEqx.bs 9 = .ok (.iload_n 1, 1) := by decide +kernel
theorem bEqx_d10 : decode bEqx.bs 10 = .ok (.invokevirtual 17, 3) := by decide +kernel
theorem bEqx_d13 : decode bEqx.bs 13 = .ok (.aload_n 2, 1) := by decide +kernel
theorem bEqx_d14 : decode bEqx.bs 14 = .ok (.iconst 0, 1) := by decide +kernel
theorem bEqx_d15 : decode bEqx.bs 15 = .ok (.invokevirtual 17, 3) := by decide +kernel
theorem bEqx_d18 : decode bEqx.bs 18 = .ok (.if_icmp .eq 5, 3) := by decide +kernel
theorem bEqx_d21 : decode bEqx.bs 21 = .ok (.iconst 0, 1) := by decide +kernel
theorem bEqx_d22 : decode bEqx.bs 22 = .ok (.ireturn, 1) := by decide +kernel
theorem bEqx_d23 : decode bEqx.bs 23 = .ok (.aload_n 2, 1) := by decide +kernel
theorem bEqx_d24 : decode bEqx.bs 24 = .ok (.invokevirtual 13, 3) := by decide +kernel
theorem bEqx_d27 : decode bEqx.bs 27 = .ok (.iconst 2, 1) := by decide +kernel
theorem bEqx_d28 : decode bEqx.bs 28 = .ok (.if_icmp .lt 20, 3) := by decide +kernel
theorem bEqx_d31 : decode bEqx.bs 31 = .ok (.aload_n 0, 1) := by decide +kernel
theorem bEqx_d32 : decode bEqx.bs 32 = .ok (.iload_n 1, 1) := by decide +kernel
theorem bEqx_d33 : decode bEqx.bs 33 = .ok (.iconst 1, 1) := by decide +kernel
theorem bEqx_d34 : decode bEqx.bs 34 = .ok (.iadd, 1) := by decide +kernel
theorem bEqx_d35 : decode bEqx.bs 35 = .ok (.invokevirtual 17, 3) := by decide +kernel
theorem bEqx_d38 : decode bEqx.bs 38 = .ok (.aload_n 2, 1) := by decide +kernel
theorem bEqx_d39 : decode bEqx.bs 39 = .ok (.iconst 1, 1) := by decide +kernel
theorem bEqx_d40 : decode bEqx.bs 40 = .ok (.invokevirtual 17, 3) := by decide +kernel
theorem bEqx_d43 : decode bEqx.bs 43 = .ok (.if_icmp .eq 5, 3) := by decide +kernel
theorem bEqx_d46 : decode bEqx.bs 46 = .ok (.iconst 0, 1) := by decide +kernel
theorem bEqx_d47 : decode bEqx.bs 47 = .ok (.ireturn, 1) := by decide +kernel
theorem bEqx_d48 : decode bEqx.bs 48 = .ok (.iconst 1, 1) := by decide +kernel
theorem bEqx_d49 : decode bEqx.bs 49 = .ok (.ireturn, 1) := by decide +kernel
theorem bEqx_pd : parseMethodDescriptor "(Ljava/lang/String;ILjava/lang/String;)Z" = some ⟨[(.object "java/lang/String"), .int, (.object "java/lang/String")], (some .boolean)⟩ := by decide +kernel
theorem bEqx_pn : plainFor bEqx.y = true := plainFor_of_name (show plainName "com/example/meerkat/meerkat/metrics/ExpositionSamplePinLaw" = true from by first | (simp [plainName, overriddenIn]; done) | decide +kernel)
theorem cEqx (l : Launch) (Z : State) (a0 : Array Value) (hw : ∀ d ∈ tables_1, d.before a0 Z = true) (n0 : Nat) (hEW : EW Z a0 consts_1) (t td s sb : Addr) (X ds : List Int32) (o : Nat) (h0 : Heap) (σ : Addr → Prop) (T : Road.StrX Z h0 t td X) (Ts : Road.StrX Z h0 s sb ds) (hds : ds.length ≤ 2) (hat : ∀ i (hi : i < ds.length), X[o + i]? = some ds[i]) (cp : Int32) (Hc : Sta Z Z.heap Road.SN "COMPACT_STRINGS" "Z" (.int cp)) (hcp : ¬ cp = 0) (fm : Value) (hfm : fm.isRef = true) (Hf : Sta Z Z.heap "jdk/internal/util/Preconditions" "SIOOBE_FORMATTER" "Ljava/util/function/BiFunction;" fm) (H0 : Sta Z Z.heap "java/lang/StringUTF16" "$assertionsDisabled" "Z" (.int 1)) (H1 : Sta Z Z.heap "java/lang/StringUTF16" "HI_BYTE_SHIFT" "I" (.int 0)) (H2 : Sta Z Z.heap "java/lang/StringUTF16" "LO_BYTE_SHIFT" "I" (.int 8)) :
    Road.Con l Z consts_1 n0 false bEqx [] σ #[(.ref t), (.int (Nat.toInt32 o)), (.ref s)] h0 (fun r h2 _ => r = some (.int 1) ∧ h0 = h2) := by
  have Et : Exa Z h0 t Road.SN := T.elim (fun q => q.1) (fun q => q.1)
  have Es : Exa Z h0 s Road.SN := Ts.elim (fun q => q.1) (fun q => q.1)
  refine Road.Con.of bEqx_pn hEW #[.val (.ref t), .val (.int (Nat.toInt32 o)), .val (.ref s)] (fun m => Road.ent (Road.laid1 rfl (Road.laid1 rfl (Road.laid1 rfl Road.laid0))) (k := 0) rfl rfl) ?_
  intro D hD
  rcases ds with _ | ⟨a, _ | ⟨b, _ | ⟨c, ds⟩⟩⟩
  · skip
    refine Road.aloadN 0 bEqx_d0 rfl ?_
    refine Road.callV (B' := bLnX) (a := s) 1 (argsL := []) (rest := []) "java/lang/String" 0 bEqx_d1 (wI hw 189 rfl) (wI hw 81 rfl) (fun vm hz => Road.notFace_sib (args := #[]) (mv (s := D.s.setVm vm) hz (wI hw 83 rfl)) rfl) (wI hw 83 rfl) (wI hw 82 rfl) (wI hw 7 rfl) (wI hw 84 rfl) (by decide) Es (cLnX l Z a0 hw n0 hEW s sb ([] : List Int32) h0 σ Ts cp Hc hcp) (lenOf bLnX_pd rfl) rfl rfl rfl (by decide) (by decide) (ce' := 0) (sl' := 0) rfl rfl (by decide) (by decide) ?_
    rintro _ h_1 σ_2 m_3 ⟨rfl, rfl⟩
    refine Road.Go.weaken (σ' := σ) m_3 (Nat.le_refl _) (Nat.le_refl _) ?_
    refine Road.nameI ?_
    intro z_5 hz_5
    obtain rfl : z_5 = (0 : Int32) := by rw [hz_5]; rfl
    refine Road.iconst 4 (1 : Int32) bEqx_d4 rfl ?_
    refine Road.icmp_lt 5 23 bEqx_d5 rfl (fun hc5 => ?_) (fun q => absurd q (by decide))
    refine Road.aloadN 23 bEqx_d23 rfl ?_
    refine Road.callV (B' := bLnX) (a := s) 24 (argsL := []) (rest := []) "java/lang/String" 0 bEqx_d24 (wI hw 189 rfl) (wI hw 81 rfl) (fun vm hz => Road.notFace_sib (args := #[]) (mv (s := D.s.setVm vm) hz (wI hw 83 rfl)) rfl) (wI hw 83 rfl) (wI hw 82 rfl) (wI hw 7 rfl) (wI hw 84 rfl) (by decide) Es (cLnX l Z a0 hw n0 hEW s sb ([] : List Int32) h0 σ Ts cp Hc hcp) (lenOf bLnX_pd rfl) rfl rfl rfl (by decide) (by decide) (ce' := 0) (sl' := 0) rfl rfl (by decide) (by decide) ?_
    rintro _ h_6 σ_7 m_8 ⟨rfl, rfl⟩
    refine Road.Go.weaken (σ' := σ) m_8 (Nat.le_refl _) (Nat.le_refl _) ?_
    refine Road.nameI ?_
    intro z_10 hz_10
    obtain rfl : z_10 = (0 : Int32) := by rw [hz_10]; rfl
    refine Road.iconst 27 (2 : Int32) bEqx_d27 rfl ?_
    refine Road.icmp_lt 28 48 bEqx_d28 rfl (fun hc28 => ?_) (fun q => absurd q (by decide))
    refine Road.iconst 48 (1 : Int32) bEqx_d48 rfl ?_
    exact Road.iret 49 1 bEqx_d49 (t := .boolean) rfl (by simp) rfl (by decide) (by decide) (fun σ' m => ⟨rfl, rfl⟩)
  · skip
    refine Road.aloadN 0 bEqx_d0 rfl ?_
    refine Road.callV (B' := bLnX) (a := s) 1 (argsL := []) (rest := []) "java/lang/String" 0 bEqx_d1 (wI hw 189 rfl) (wI hw 81 rfl) (fun vm hz => Road.notFace_sib (args := #[]) (mv (s := D.s.setVm vm) hz (wI hw 83 rfl)) rfl) (wI hw 83 rfl) (wI hw 82 rfl) (wI hw 7 rfl) (wI hw 84 rfl) (by decide) Es (cLnX l Z a0 hw n0 hEW s sb ([a] : List Int32) h0 σ Ts cp Hc hcp) (lenOf bLnX_pd rfl) rfl rfl rfl (by decide) (by decide) (ce' := 0) (sl' := 0) rfl rfl (by decide) (by decide) ?_
    rintro _ h_11 σ_12 m_13 ⟨rfl, rfl⟩
    refine Road.Go.weaken (σ' := σ) m_13 (Nat.le_refl _) (Nat.le_refl _) ?_
    refine Road.nameI ?_
    intro z_15 hz_15
    obtain rfl : z_15 = (1 : Int32) := by rw [hz_15]; rfl
    refine Road.iconst 4 (1 : Int32) bEqx_d4 rfl ?_
    refine Road.icmp_lt 5 23 bEqx_d5 rfl (fun q => absurd q (by decide)) (fun hc5 => ?_)
    refine Road.aloadN 8 bEqx_d8 rfl ?_
    refine Road.iloadN 9 bEqx_d9 rfl ?_
    refine Road.callV (B' := bChX) (a := t) 10 (argsL := [(.int (Nat.toInt32 o))]) (rest := []) "java/lang/String" 0 bEqx_d10 (wI hw 197 rfl) (wI hw 198 rfl) (fun vm hz => Road.notFace_sib (args := #[]) (mv (s := D.s.setVm vm) hz (wI hw 83 rfl)) rfl) (wI hw 200 rfl) (wI hw 199 rfl) (wI hw 7 rfl) (wI hw 201 rfl) (by decide) Et (cChX l Z a0 hw n0 hEW t td X o a h0 σ T (hat 0 (by simp)) cp Hc hcp fm hfm Hf H0 H1 H2) (lenOf bChX_pd rfl) rfl rfl rfl (by decide) (by decide) (ce' := 0) (sl' := 0) rfl rfl (by decide) (by decide) ?_
    rintro _ h_16 σ_17 m_18 ⟨rfl, rfl⟩
    refine Road.Go.weaken (σ' := σ) m_18 (Nat.le_refl _) (Nat.le_refl _) ?_
    refine Road.aloadN 13 bEqx_d13 rfl ?_
    refine Road.iconst 14 (0 : Int32) bEqx_d14 rfl ?_
    refine Road.nameI ?_
    intro z_20 hz_20
    obtain rfl : z_20 = (Nat.toInt32 0) := by rw [hz_20]; rfl
    refine Road.callV (B' := bChX) (a := s) 15 (argsL := [(.int (Nat.toInt32 0))]) (rest := [(.int a)]) "java/lang/String" 1 bEqx_d15 (wI hw 197 rfl) (wI hw 198 rfl) (fun vm hz => Road.notFace_sib (args := #[]) (mv (s := D.s.setVm vm) hz (wI hw 83 rfl)) rfl) (wI hw 200 rfl) (wI hw 199 rfl) (wI hw 7 rfl) (wI hw 201 rfl) (by decide) Es (cChX l Z a0 hw n0 hEW s sb ([a] : List Int32) 0 a h0 σ Ts rfl cp Hc hcp fm hfm Hf H0 H1 H2) (lenOf bChX_pd rfl) rfl rfl rfl (by decide) (by decide) (ce' := 0) (sl' := 0) rfl rfl (by decide) (by decide) ?_
    rintro _ h_21 σ_22 m_23 ⟨rfl, rfl⟩
    refine Road.Go.weaken (σ' := σ) m_23 (Nat.le_refl _) (Nat.le_refl _) ?_
    refine Road.icmp_eq 18 23 bEqx_d18 rfl (fun hc18 => ?_) (fun q => absurd q (by simp))
    refine Road.aloadN 23 bEqx_d23 rfl ?_
    refine Road.callV (B' := bLnX) (a := s) 24 (argsL := []) (rest := []) "java/lang/String" 0 bEqx_d24 (wI hw 189 rfl) (wI hw 81 rfl) (fun vm hz => Road.notFace_sib (args := #[]) (mv (s := D.s.setVm vm) hz (wI hw 83 rfl)) rfl) (wI hw 83 rfl) (wI hw 82 rfl) (wI hw 7 rfl) (wI hw 84 rfl) (by decide) Es (cLnX l Z a0 hw n0 hEW s sb ([a] : List Int32) h0 σ Ts cp Hc hcp) (lenOf bLnX_pd rfl) rfl rfl rfl (by decide) (by decide) (ce' := 0) (sl' := 0) rfl rfl (by decide) (by decide) ?_
    rintro _ h_25 σ_26 m_27 ⟨rfl, rfl⟩
    refine Road.Go.weaken (σ' := σ) m_27 (Nat.le_refl _) (Nat.le_refl _) ?_
    refine Road.nameI ?_
    intro z_29 hz_29
    obtain rfl : z_29 = (1 : Int32) := by rw [hz_29]; rfl
    refine Road.iconst 27 (2 : Int32) bEqx_d27 rfl ?_
    refine Road.icmp_lt 28 48 bEqx_d28 rfl (fun hc28 => ?_) (fun q => absurd q (by decide))
    refine Road.iconst 48 (1 : Int32) bEqx_d48 rfl ?_
    exact Road.iret 49 1 bEqx_d49 (t := .boolean) rfl (by simp) rfl (by decide) (by decide) (fun σ' m => ⟨rfl, rfl⟩)
  · skip
    refine Road.aloadN 0 bEqx_d0 rfl ?_
    refine Road.callV (B' := bLnX) (a := s) 1 (argsL := []) (rest := []) "java/lang/String" 0 bEqx_d1 (wI hw 189 rfl) (wI hw 81 rfl) (fun vm hz => Road.notFace_sib (args := #[]) (mv (s := D.s.setVm vm) hz (wI hw 83 rfl)) rfl) (wI hw 83 rfl) (wI hw 82 rfl) (wI hw 7 rfl) (wI hw 84 rfl) (by decide) Es (cLnX l Z a0 hw n0 hEW s sb ([a, b] : List Int32) h0 σ Ts cp Hc hcp) (lenOf bLnX_pd rfl) rfl rfl rfl (by decide) (by decide) (ce' := 0) (sl' := 0) rfl rfl (by decide) (by decide) ?_
    rintro _ h_30 σ_31 m_32 ⟨rfl, rfl⟩
    refine Road.Go.weaken (σ' := σ) m_32 (Nat.le_refl _) (Nat.le_refl _) ?_
    refine Road.nameI ?_
    intro z_34 hz_34
    obtain rfl : z_34 = (2 : Int32) := by rw [hz_34]; rfl
    refine Road.iconst 4 (1 : Int32) bEqx_d4 rfl ?_
    refine Road.icmp_lt 5 23 bEqx_d5 rfl (fun q => absurd q (by decide)) (fun hc5 => ?_)
    refine Road.aloadN 8 bEqx_d8 rfl ?_
    refine Road.iloadN 9 bEqx_d9 rfl ?_
    refine Road.callV (B' := bChX) (a := t) 10 (argsL := [(.int (Nat.toInt32 o))]) (rest := []) "java/lang/String" 0 bEqx_d10 (wI hw 197 rfl) (wI hw 198 rfl) (fun vm hz => Road.notFace_sib (args := #[]) (mv (s := D.s.setVm vm) hz (wI hw 83 rfl)) rfl) (wI hw 200 rfl) (wI hw 199 rfl) (wI hw 7 rfl) (wI hw 201 rfl) (by decide) Et (cChX l Z a0 hw n0 hEW t td X o a h0 σ T (hat 0 (by simp)) cp Hc hcp fm hfm Hf H0 H1 H2) (lenOf bChX_pd rfl) rfl rfl rfl (by decide) (by decide) (ce' := 0) (sl' := 0) rfl rfl (by decide) (by decide) ?_
    rintro _ h_35 σ_36 m_37 ⟨rfl, rfl⟩
    refine Road.Go.weaken (σ' := σ) m_37 (Nat.le_refl _) (Nat.le_refl _) ?_
    refine Road.aloadN 13 bEqx_d13 rfl ?_
    refine Road.iconst 14 (0 : Int32) bEqx_d14 rfl ?_
    refine Road.nameI ?_
    intro z_39 hz_39
    obtain rfl : z_39 = (Nat.toInt32 0) := by rw [hz_39]; rfl
    refine Road.callV (B' := bChX) (a := s) 15 (argsL := [(.int (Nat.toInt32 0))]) (rest := [(.int a)]) "java/lang/String" 1 bEqx_d15 (wI hw 197 rfl) (wI hw 198 rfl) (fun vm hz => Road.notFace_sib (args := #[]) (mv (s := D.s.setVm vm) hz (wI hw 83 rfl)) rfl) (wI hw 200 rfl) (wI hw 199 rfl) (wI hw 7 rfl) (wI hw 201 rfl) (by decide) Es (cChX l Z a0 hw n0 hEW s sb ([a, b] : List Int32) 0 a h0 σ Ts rfl cp Hc hcp fm hfm Hf H0 H1 H2) (lenOf bChX_pd rfl) rfl rfl rfl (by decide) (by decide) (ce' := 0) (sl' := 0) rfl rfl (by decide) (by decide) ?_
    rintro _ h_40 σ_41 m_42 ⟨rfl, rfl⟩
    refine Road.Go.weaken (σ' := σ) m_42 (Nat.le_refl _) (Nat.le_refl _) ?_
    refine Road.icmp_eq 18 23 bEqx_d18 rfl (fun hc18 => ?_) (fun q => absurd q (by simp))
    refine Road.aloadN 23 bEqx_d23 rfl ?_
    refine Road.callV (B' := bLnX) (a := s) 24 (argsL := []) (rest := []) "java/lang/String" 0 bEqx_d24 (wI hw 189 rfl) (wI hw 81 rfl) (fun vm hz => Road.notFace_sib (args := #[]) (mv (s := D.s.setVm vm) hz (wI hw 83 rfl)) rfl) (wI hw 83 rfl) (wI hw 82 rfl) (wI hw 7 rfl) (wI hw 84 rfl) (by decide) Es (cLnX l Z a0 hw n0 hEW s sb ([a, b] : List Int32) h0 σ Ts cp Hc hcp) (lenOf bLnX_pd rfl) rfl rfl rfl (by decide) (by decide) (ce' := 0) (sl' := 0) rfl rfl (by decide) (by decide) ?_
    rintro _ h_44 σ_45 m_46 ⟨rfl, rfl⟩
    refine Road.Go.weaken (σ' := σ) m_46 (Nat.le_refl _) (Nat.le_refl _) ?_
    refine Road.nameI ?_
    intro z_48 hz_48
    obtain rfl : z_48 = (2 : Int32) := by rw [hz_48]; rfl
    refine Road.iconst 27 (2 : Int32) bEqx_d27 rfl ?_
    refine Road.icmp_lt 28 48 bEqx_d28 rfl (fun q => absurd q (by decide)) (fun hc28 => ?_)
    refine Road.aloadN 31 bEqx_d31 rfl ?_
    refine Road.iloadN 32 bEqx_d32 rfl ?_
    refine Road.iconst 33 (1 : Int32) bEqx_d33 rfl ?_
    refine Road.iadd 34 bEqx_d34 ?_
    refine Road.nameI ?_
    intro z_49 hz_49
    obtain rfl : z_49 = (Nat.toInt32 (o + 1)) := by rw [hz_49]; exact Road.succ32 _
    refine Road.callV (B' := bChX) (a := t) 35 (argsL := [(.int (Nat.toInt32 (o + 1)))]) (rest := []) "java/lang/String" 0 bEqx_d35 (wI hw 197 rfl) (wI hw 198 rfl) (fun vm hz => Road.notFace_sib (args := #[]) (mv (s := D.s.setVm vm) hz (wI hw 83 rfl)) rfl) (wI hw 200 rfl) (wI hw 199 rfl) (wI hw 7 rfl) (wI hw 201 rfl) (by decide) Et (cChX l Z a0 hw n0 hEW t td X (o + 1) b h0 σ T (hat 1 (by simp)) cp Hc hcp fm hfm Hf H0 H1 H2) (lenOf bChX_pd rfl) rfl rfl rfl (by decide) (by decide) (ce' := 0) (sl' := 0) rfl rfl (by decide) (by decide) ?_
    rintro _ h_50 σ_51 m_52 ⟨rfl, rfl⟩
    refine Road.Go.weaken (σ' := σ) m_52 (Nat.le_refl _) (Nat.le_refl _) ?_
    refine Road.aloadN 38 bEqx_d38 rfl ?_
    refine Road.iconst 39 (1 : Int32) bEqx_d39 rfl ?_
    refine Road.nameI ?_
    intro z_54 hz_54
    obtain rfl : z_54 = (Nat.toInt32 1) := by rw [hz_54]; rfl
    refine Road.callV (B' := bChX) (a := s) 40 (argsL := [(.int (Nat.toInt32 1))]) (rest := [(.int b)]) "java/lang/String" 1 bEqx_d40 (wI hw 197 rfl) (wI hw 198 rfl) (fun vm hz => Road.notFace_sib (args := #[]) (mv (s := D.s.setVm vm) hz (wI hw 83 rfl)) rfl) (wI hw 200 rfl) (wI hw 199 rfl) (wI hw 7 rfl) (wI hw 201 rfl) (by decide) Es (cChX l Z a0 hw n0 hEW s sb ([a, b] : List Int32) 1 b h0 σ Ts rfl cp Hc hcp fm hfm Hf H0 H1 H2) (lenOf bChX_pd rfl) rfl rfl rfl (by decide) (by decide) (ce' := 0) (sl' := 0) rfl rfl (by decide) (by decide) ?_
    rintro _ h_55 σ_56 m_57 ⟨rfl, rfl⟩
    refine Road.Go.weaken (σ' := σ) m_57 (Nat.le_refl _) (Nat.le_refl _) ?_
    refine Road.icmp_eq 43 48 bEqx_d43 rfl (fun hc43 => ?_) (fun q => absurd q (by simp))
    refine Road.iconst 48 (1 : Int32) bEqx_d48 rfl ?_
    exact Road.iret 49 1 bEqx_d49 (t := .boolean) rfl (by simp) rfl (by decide) (by decide) (fun σ' m => ⟨rfl, rfl⟩)
  · skip
    exact absurd hds (by simp)
def bCks : Road.Bdy := (⟨"com/example/meerkat/meerkat/metrics/ExpositionSamplePinLaw", "checkSample", "(Ljava/lang/String;ILjava/lang/String;Ljava/lang/String;Ljava/lang/String;)Z"⟩, method_5_code, 6, (some .boolean), { frames := 6, cells := 0, slots := 0, locals := 81 })
theorem bCks_d0 : decode bCks.bs 0 = .ok (.iload_n 1, 1) := by decide +kernel
theorem bCks_d1 : decode bCks.bs 1 = .ok (.istore 5, 2) := by decide +kernel
theorem bCks_d3 : decode bCks.bs 3 = .ok (.aload_n 0, 1) := by decide +kernel
theorem bCks_d4 : decode bCks.bs 4 = .ok (.iload 5, 2) := by decide +kernel
theorem bCks_d6 : decode bCks.bs 6 = .ok (.aload_n 2, 1) := by decide +kernel
theorem bCks_d7 : decode bCks.bs 7 = .ok (.invokestatic 25, 3) := by decide +kernel
theorem bCks_d10 : decode bCks.bs 10 = .ok (.ifCond .ne 5, 3) := by decide +kernel
theorem bCks_d13 : decode bCks.bs 13 = .ok (.iconst 0, 1) := by decide +kernel
theorem bCks_d14 : decode bCks.bs 14 = .ok (.ireturn, 1) := by decide +kernel
theorem bCks_d15 : decode bCks.bs 15 = .ok (.iload 5, 2) := by decide +kernel
theorem bCks_d17 : decode bCks.bs 17 = .ok (.aload_n 2, 1) := by decide +kernel
theorem bCks_d18 : decode bCks.bs 18 = .ok (.invokevirtual 13, 3) := by decide +kernel
theorem bCks_d21 : decode bCks.bs 21 = .ok (.iadd, 1) := by decide +kernel
theorem bCks_d22 : decode bCks.bs 22 = .ok (.istore 5, 2) := by decide +kernel
theorem bCks_d24 : decode bCks.bs 24 = .ok (.aload_n 3, 1) := by decide +kernel
theorem bCks_d25 : decode bCks.bs 25 = .ok (.invokevirtual 21, 3) := by decide +kernel
theorem bCks_d28 : decode bCks.bs 28 = .ok (.ifCond .ne 56, 3) := by decide +kernel
theorem bCks_d31 : decode bCks.bs 31 = .ok (.aload_n 0, 1) := by decide +kernel
theorem bCks_d32 : decode bCks.bs 32 = .ok (.iload 5, 2) := by decide +kernel
theorem bCks_d34 : decode bCks.bs 34 = .ok (.invokevirtual 17, 3) := by decide +kernel
theorem bCks_d37 : decode bCks.bs 37 = .ok (.bipush 123, 2) := by decide +kernel
theorem bCks_d39 : decode bCks.bs 39 = .ok (.if_icmp .eq 5, 3) := by decide +kernel
theorem bCks_d42 : decode bCks.bs 42 = .ok (.iconst 0, 1) := by decide +kernel
theorem bCks_d43 : decode bCks.bs 43 = .ok (.ireturn, 1) := by decide +kernel
theorem bCks_d44 : decode bCks.bs 44 = .ok (.iinc 5 1, 3) := by decide +kernel
theorem bCks_d47 : decode bCks.bs 47 = .ok (.aload_n 0, 1) := by decide +kernel
theorem bCks_d48 : decode bCks.bs 48 = .ok (.iload 5, 2) := by decide +kernel
theorem bCks_d50 : decode bCks.bs 50 = .ok (.aload_n 3, 1) := by decide +kernel
theorem bCks_d51 : decode bCks.bs 51 = .ok (.invokestatic 25, 3) := by decide +kernel
theorem bCks_d54 : decode bCks.bs 54 = .ok (.ifCond .ne 5, 3) := by decide +kernel
theorem bCks_d57 : decode bCks.bs 57 = .ok (.iconst 0, 1) := by decide +kernel
theorem bCks_d58 : decode bCks.bs 58 = .ok (.ireturn, 1) := by decide +kernel
theorem bCks_d59 : decode bCks.bs 59 = .ok (.iload 5, 2) := by decide +kernel
theorem bCks_d61 : decode bCks.bs 61 = .ok (.aload_n 3, 1) := by decide +kernel
theorem bCks_d62 : decode bCks.bs 62 = .ok (.invokevirtual 13, 3) := by decide +kernel
theorem bCks_d65 : decode bCks.bs 65 = .ok (.iadd, 1) := by decide +kernel
theorem bCks_d66 : decode bCks.bs 66 = .ok (.istore 5, 2) := by decide +kernel
theorem bCks_d68 : decode bCks.bs 68 = .ok (.aload_n 0, 1) := by decide +kernel
theorem bCks_d69 : decode bCks.bs 69 = .ok (.iload 5, 2) := by decide +kernel
theorem bCks_d71 : decode bCks.bs 71 = .ok (.invokevirtual 17, 3) := by decide +kernel
theorem bCks_d74 : decode bCks.bs 74 = .ok (.bipush 125, 2) := by decide +kernel
theorem bCks_d76 : decode bCks.bs 76 = .ok (.if_icmp .eq 5, 3) := by decide +kernel
theorem bCks_d79 : decode bCks.bs 79 = .ok (.iconst 0, 1) := by decide +kernel
theorem bCks_d80 : decode bCks.bs 80 = .ok (.ireturn, 1) := by decide +kernel
theorem bCks_d81 : decode bCks.bs 81 = .ok (.iinc 5 1, 3) := by decide +kernel
theorem bCks_d84 : decode bCks.bs 84 = .ok (.aload_n 0, 1) := by decide +kernel
theorem bCks_d85 : decode bCks.bs 85 = .ok (.iload 5, 2) := by decide +kernel
theorem bCks_d87 : decode bCks.bs 87 = .ok (.invokevirtual 17, 3) := by decide +kernel
theorem bCks_d90 : decode bCks.bs 90 = .ok (.bipush 32, 2) := by decide +kernel
theorem bCks_d92 : decode bCks.bs 92 = .ok (.if_icmp .eq 5, 3) := by decide +kernel
theorem bCks_d95 : decode bCks.bs 95 = .ok (.iconst 0, 1) := by decide +kernel
theorem bCks_d96 : decode bCks.bs 96 = .ok (.ireturn, 1) := by decide +kernel
theorem bCks_d97 : decode bCks.bs 97 = .ok (.iinc 5 1, 3) := by decide +kernel
theorem bCks_d100 : decode bCks.bs 100 = .ok (.aload_n 0, 1) := by decide +kernel
theorem bCks_d101 : decode bCks.bs 101 = .ok (.iload 5, 2) := by decide +kernel
theorem bCks_d103 : decode bCks.bs 103 = .ok (.aload 4, 2) := by decide +kernel
theorem bCks_d105 : decode bCks.bs 105 = .ok (.invokestatic 25, 3) := by decide +kernel
theorem bCks_d108 : decode bCks.bs 108 = .ok (.ifCond .ne 5, 3) := by decide +kernel
theorem bCks_d111 : decode bCks.bs 111 = .ok (.iconst 0, 1) := by decide +kernel
theorem bCks_d112 : decode bCks.bs 112 = .ok (.ireturn, 1) := by decide +kernel
theorem bCks_d113 : decode bCks.bs 113 = .ok (.iload 5, 2) := by decide +kernel
theorem bCks_d115 : decode bCks.bs 115 = .ok (.aload 4, 2) := by decide +kernel
theorem bCks_d117 : decode bCks.bs 117 = .ok (.invokevirtual 13, 3) := by decide +kernel
theorem bCks_d120 : decode bCks.bs 120 = .ok (.iadd, 1) := by decide +kernel
theorem bCks_d121 : decode bCks.bs 121 = .ok (.istore 5, 2) := by decide +kernel
theorem bCks_d123 : decode bCks.bs 123 = .ok (.aload_n 0, 1) := by decide +kernel
theorem bCks_d124 : decode bCks.bs 124 = .ok (.iload 5, 2) := by decide +kernel
theorem bCks_d126 : decode bCks.bs 126 = .ok (.invokevirtual 17, 3) := by decide +kernel
theorem bCks_d129 : decode bCks.bs 129 = .ok (.bipush 10, 2) := by decide +kernel
theorem bCks_d131 : decode bCks.bs 131 = .ok (.if_icmp .ne 7, 3) := by decide +kernel
theorem bCks_d134 : decode bCks.bs 134 = .ok (.iconst 1, 1) := by decide +kernel
theorem bCks_d135 : decode bCks.bs 135 = .ok (.goto 4, 3) := by decide +kernel
theorem bCks_d138 : decode bCks.bs 138 = .ok (.iconst 0, 1) := by decide +kernel
theorem bCks_d139 : decode bCks.bs 139 = .ok (.ireturn, 1) := by decide +kernel
theorem bCks_pd : parseMethodDescriptor "(Ljava/lang/String;ILjava/lang/String;Ljava/lang/String;Ljava/lang/String;)Z" = some ⟨[(.object "java/lang/String"), .int, (.object "java/lang/String"), (.object "java/lang/String"), (.object "java/lang/String")], (some .boolean)⟩ := by decide +kernel
theorem bCks_pn : plainFor bCks.y = true := plainFor_of_name (show plainName "com/example/meerkat/meerkat/metrics/ExpositionSamplePinLaw" = true from by first | (simp [plainName, overriddenIn]; done) | decide +kernel)
theorem cCks (l : Launch) (Z : State) (a0 : Array Value) (hw : ∀ d ∈ tables_1, d.before a0 Z = true) (n0 : Nat) (hEW : EW Z a0 consts_1) (t td n nd y yd v vd : Addr) (X pr po ns ls vs : List Int32) (h0 : Heap) (σ : Addr → Prop) (T : Road.StrX Z h0 t td X) (Tn : Road.StrX Z h0 n nd ns) (hn : ns.length ≤ 2) (Ty : Road.StrX Z h0 y yd ls) (hy : ls.length ≤ 2) (Tv : Road.StrX Z h0 v vd vs) (hv : vs.length ≤ 2) (hX : X = pr ++ (ns ++ ((if ls = [] then ([] : List Int32) else [123] ++ ls ++ [125]) ++ ([32] ++ (vs ++ ([10] ++ po)))))) (cp : Int32) (Hc : Sta Z Z.heap Road.SN "COMPACT_STRINGS" "Z" (.int cp)) (hcp : ¬ cp = 0) (fm : Value) (hfm : fm.isRef = true) (Hf : Sta Z Z.heap "jdk/internal/util/Preconditions" "SIOOBE_FORMATTER" "Ljava/util/function/BiFunction;" fm) (H0 : Sta Z Z.heap "java/lang/StringUTF16" "$assertionsDisabled" "Z" (.int 1)) (H1 : Sta Z Z.heap "java/lang/StringUTF16" "HI_BYTE_SHIFT" "I" (.int 0)) (H2 : Sta Z Z.heap "java/lang/StringUTF16" "LO_BYTE_SHIFT" "I" (.int 8)) :
    Road.Con l Z consts_1 n0 false bCks [] σ #[(.ref t), (.int (Nat.toInt32 pr.length)), (.ref n), (.ref y), (.ref v)] h0 (fun r h2 _ => r = some (.int 1) ∧ h0 = h2) := by
  have En : Exa Z h0 n Road.SN := Tn.elim (fun q => q.1) (fun q => q.1)
  have Ey : Exa Z h0 y Road.SN := Ty.elim (fun q => q.1) (fun q => q.1)
  have Ev : Exa Z h0 v Road.SN := Tv.elim (fun q => q.1) (fun q => q.1)
  have Et : Exa Z h0 t Road.SN := T.elim (fun q => q.1) (fun q => q.1)
  refine Road.Con.of bCks_pn hEW #[.val (.ref t), .val (.int (Nat.toInt32 pr.length)), .val (.ref n), .val (.ref y), .val (.ref v), .unset] (fun m => Road.ent (Road.laid1 rfl (Road.laid1 rfl (Road.laid1 rfl (Road.laid1 rfl (Road.laid1 rfl Road.laid0))))) (k := 1) rfl rfl) ?_
  intro D hD
  have J84 : ∀ u : List Int32, X = u ++ ([32] ++ (vs ++ ([10] ++ po))) → Road.Go l Z a0 consts_1 n0 false bCks D (fun r h2 _ => r = some (.int 1) ∧ h0 = h2) h0 σ 0 0 84 #[.val (.ref t), .val (.int (Nat.toInt32 pr.length)), .val (.ref n), .val (.ref y), .val (.ref v), .val (.int (Nat.toInt32 u.length))] [] := by
    intro u hu
    refine Road.aloadN 84 bCks_d84 rfl ?_
    refine Road.iload 85 bCks_d85 rfl ?_
    refine Road.callV (B' := bChX) (a := t) 87 (argsL := [(.int (Nat.toInt32 u.length))]) (rest := []) "java/lang/String" 0 bCks_d87 (wI hw 197 rfl) (wI hw 198 rfl) (fun vm hz => Road.notFace_sib (args := #[]) (mv (s := D.s.setVm vm) hz (wI hw 83 rfl)) rfl) (wI hw 200 rfl) (wI hw 199 rfl) (wI hw 7 rfl) (wI hw 201 rfl) (by decide) Et (cChX l Z a0 hw n0 hEW t td X u.length (32 : Int32) h0 σ T (Road.one_at hu) cp Hc hcp fm hfm Hf H0 H1 H2) (lenOf bChX_pd rfl) rfl rfl rfl (by decide) (by decide) (ce' := 0) (sl' := 0) rfl rfl (by decide) (by decide) ?_
    rintro _ h_1 σ_2 m_3 ⟨rfl, rfl⟩
    refine Road.Go.weaken (σ' := σ) m_3 (Nat.le_refl _) (Nat.le_refl _) ?_
    refine Road.bipush 90 (32 : Int32) bCks_d90 rfl ?_
    refine Road.icmp_eq 92 97 bCks_d92 rfl (fun hc92 => ?_) (fun q => absurd q (by simp))
    refine Road.iinc 97 (1) #[.val (.ref t), .val (.int (Nat.toInt32 pr.length)), .val (.ref n), .val (.ref y), .val (.ref v), .val (.int ((Nat.toInt32 u.length) + 1))] bCks_d97 rfl rfl rfl ?_
    rw [show (((Nat.toInt32 u.length) + 1) : Int32) = (Nat.toInt32 (u ++ ([32] : List Int32)).length) from by rw [List.length_append]; exact Road.succ32 _]
    have hu2 : X = (u ++ ([32] : List Int32)) ++ (vs ++ ([10] ++ po)) := by rw [hu]; simp only [List.append_assoc, List.cons_append, List.nil_append]
    refine Road.aloadN 100 bCks_d100 rfl ?_
    refine Road.iload 101 bCks_d101 rfl ?_
    refine Road.aload 103 bCks_d103 rfl ?_
    refine Road.callS (B' := bEqx) 105 (argsL := [(.ref t), (.int (Nat.toInt32 (u ++ ([32] : List Int32)).length)), (.ref v)]) (rest := []) 0 bCks_d105 (wI hw 194 rfl) (wI hw 195 rfl) (wI hw 2 rfl) (wI hw 196 rfl) (by decide) (cEqx l Z a0 hw n0 hEW t td v vd X vs (u ++ ([32] : List Int32)).length h0 σ T Tv hv (Road.mid_at hu2) cp Hc hcp fm hfm Hf H0 H1 H2) (lenOf bEqx_pd rfl) rfl rfl rfl (by decide) (by decide) (ce' := 0) (sl' := 0) rfl rfl (by decide) (by decide) ?_
    rintro _ h_5 σ_6 m_7 ⟨rfl, rfl⟩
    refine Road.Go.weaken (σ' := σ) m_7 (Nat.le_refl _) (Nat.le_refl _) ?_
    refine Road.if_ne 108 113 bCks_d108 rfl (fun hc108 => ?_) (fun q => absurd q (by decide))
    refine Road.iload 113 bCks_d113 rfl ?_
    refine Road.aload 115 bCks_d115 rfl ?_
    refine Road.callV (B' := bLnX) (a := v) 117 (argsL := []) (rest := [(.int (Nat.toInt32 (u ++ ([32] : List Int32)).length))]) "java/lang/String" 1 bCks_d117 (wI hw 189 rfl) (wI hw 81 rfl) (fun vm hz => Road.notFace_sib (args := #[]) (mv (s := D.s.setVm vm) hz (wI hw 83 rfl)) rfl) (wI hw 83 rfl) (wI hw 82 rfl) (wI hw 7 rfl) (wI hw 84 rfl) (by decide) Ev (cLnX l Z a0 hw n0 hEW v vd vs h0 σ Tv cp Hc hcp) (lenOf bLnX_pd rfl) rfl rfl rfl (by decide) (by decide) (ce' := 0) (sl' := 0) rfl rfl (by decide) (by decide) ?_
    rintro _ h_9 σ_10 m_11 ⟨rfl, rfl⟩
    refine Road.Go.weaken (σ' := σ) m_11 (Nat.le_refl _) (Nat.le_refl _) ?_
    refine Road.iadd 120 bCks_d120 ?_
    refine Road.istore 121 #[.val (.ref t), .val (.int (Nat.toInt32 pr.length)), .val (.ref n), .val (.ref y), .val (.ref v), .val (.int ((Nat.toInt32 (u ++ ([32] : List Int32)).length) + (Nat.toInt32 vs.length)))] bCks_d121 rfl ?_
    rw [show (((Nat.toInt32 (u ++ ([32] : List Int32)).length) + (Nat.toInt32 vs.length)) : Int32) = (Nat.toInt32 (u ++ ([32] : List Int32) ++ vs).length) from by rw [Road.add32n, ← List.length_append]]
    have hu3 : X = (u ++ ([32] : List Int32) ++ vs) ++ ([10] ++ po) := by rw [hu]; simp only [List.append_assoc, List.cons_append, List.nil_append]
    refine Road.aloadN 123 bCks_d123 rfl ?_
    refine Road.iload 124 bCks_d124 rfl ?_
    refine Road.callV (B' := bChX) (a := t) 126 (argsL := [(.int (Nat.toInt32 (u ++ ([32] : List Int32) ++ vs).length))]) (rest := []) "java/lang/String" 0 bCks_d126 (wI hw 197 rfl) (wI hw 198 rfl) (fun vm hz => Road.notFace_sib (args := #[]) (mv (s := D.s.setVm vm) hz (wI hw 83 rfl)) rfl) (wI hw 200 rfl) (wI hw 199 rfl) (wI hw 7 rfl) (wI hw 201 rfl) (by decide) Et (cChX l Z a0 hw n0 hEW t td X (u ++ ([32] : List Int32) ++ vs).length (10 : Int32) h0 σ T (Road.one_at hu3) cp Hc hcp fm hfm Hf H0 H1 H2) (lenOf bChX_pd rfl) rfl rfl rfl (by decide) (by decide) (ce' := 0) (sl' := 0) rfl rfl (by decide) (by decide) ?_
    rintro _ h_13 σ_14 m_15 ⟨rfl, rfl⟩
    refine Road.Go.weaken (σ' := σ) m_15 (Nat.le_refl _) (Nat.le_refl _) ?_
    refine Road.bipush 129 (10 : Int32) bCks_d129 rfl ?_
    refine Road.icmp_ne 131 138 bCks_d131 rfl (fun q => absurd q (by simp)) (fun hc131 => ?_)
    refine Road.iconst 134 (1 : Int32) bCks_d134 rfl ?_
    refine Road.goto 135 139 bCks_d135 rfl ?_
    exact Road.iret 139 1 bCks_d139 (t := .boolean) rfl (by simp) rfl (by decide) (by decide) (fun σ' m => ⟨rfl, rfl⟩)
  refine Road.iloadN 0 bCks_d0 rfl ?_
  refine Road.istore 1 #[.val (.ref t), .val (.int (Nat.toInt32 pr.length)), .val (.ref n), .val (.ref y), .val (.ref v), .val (.int (Nat.toInt32 pr.length))] bCks_d1 rfl ?_
  refine Road.aloadN 3 bCks_d3 rfl ?_
  refine Road.iload 4 bCks_d4 rfl ?_
  refine Road.aloadN 6 bCks_d6 rfl ?_
  refine Road.callS (B' := bEqx) 7 (argsL := [(.ref t), (.int (Nat.toInt32 pr.length)), (.ref n)]) (rest := []) 0 bCks_d7 (wI hw 194 rfl) (wI hw 195 rfl) (wI hw 2 rfl) (wI hw 196 rfl) (by decide) (cEqx l Z a0 hw n0 hEW t td n nd X ns pr.length h0 σ T Tn hn (Road.mid_at hX) cp Hc hcp fm hfm Hf H0 H1 H2) (lenOf bEqx_pd rfl) rfl rfl rfl (by decide) (by decide) (ce' := 0) (sl' := 0) rfl rfl (by decide) (by decide) ?_
  rintro _ h_17 σ_18 m_19 ⟨rfl, rfl⟩
  refine Road.Go.weaken (σ' := σ) m_19 (Nat.le_refl _) (Nat.le_refl _) ?_
  refine Road.if_ne 10 15 bCks_d10 rfl (fun hc10 => ?_) (fun q => absurd q (by decide))
  refine Road.iload 15 bCks_d15 rfl ?_
  refine Road.aloadN 17 bCks_d17 rfl ?_
  refine Road.callV (B' := bLnX) (a := n) 18 (argsL := []) (rest := [(.int (Nat.toInt32 pr.length))]) "java/lang/String" 1 bCks_d18 (wI hw 189 rfl) (wI hw 81 rfl) (fun vm hz => Road.notFace_sib (args := #[]) (mv (s := D.s.setVm vm) hz (wI hw 83 rfl)) rfl) (wI hw 83 rfl) (wI hw 82 rfl) (wI hw 7 rfl) (wI hw 84 rfl) (by decide) En (cLnX l Z a0 hw n0 hEW n nd ns h0 σ Tn cp Hc hcp) (lenOf bLnX_pd rfl) rfl rfl rfl (by decide) (by decide) (ce' := 0) (sl' := 0) rfl rfl (by decide) (by decide) ?_
  rintro _ h_21 σ_22 m_23 ⟨rfl, rfl⟩
  refine Road.Go.weaken (σ' := σ) m_23 (Nat.le_refl _) (Nat.le_refl _) ?_
  refine Road.iadd 21 bCks_d21 ?_
  refine Road.istore 22 #[.val (.ref t), .val (.int (Nat.toInt32 pr.length)), .val (.ref n), .val (.ref y), .val (.ref v), .val (.int ((Nat.toInt32 pr.length) + (Nat.toInt32 ns.length)))] bCks_d22 rfl ?_
  rw [show (((Nat.toInt32 pr.length) + (Nat.toInt32 ns.length)) : Int32) = (Nat.toInt32 (pr ++ ns).length) from by rw [Road.add32n, ← List.length_append]]
  refine Road.aloadN 24 bCks_d24 rfl ?_
  refine Road.callV (B' := bEmX) (a := y) 25 (argsL := []) (rest := []) "java/lang/String" 0 bCks_d25 (wI hw 190 rfl) (wI hw 118 rfl) (fun vm hz => Road.notFace_sib (args := #[]) (mv (s := D.s.setVm vm) hz (wI hw 83 rfl)) rfl) (wI hw 120 rfl) (wI hw 119 rfl) (wI hw 7 rfl) (wI hw 121 rfl) (by decide) Ey (cEmX l Z a0 hw n0 hEW y yd ls h0 σ Ty) (lenOf bEmX_pd rfl) rfl rfl rfl (by decide) (by decide) (ce' := 0) (sl' := 0) rfl rfl (by decide) (by decide) ?_
  rintro _ h_25 σ_26 m_27 ⟨rfl, rfl⟩
  refine Road.Go.weaken (σ' := σ) m_27 (Nat.le_refl _) (Nat.le_refl _) ?_
  by_cases hls : ls = []
  · skip
    rw [if_pos hls] at hX
    refine Road.nameI ?_
    intro z_29 hz_29
    obtain rfl : z_29 = (1 : Int32) := by rw [hz_29]; rw [if_pos hls]
    refine Road.if_ne 28 84 bCks_d28 rfl (fun hc28 => ?_) (fun q => absurd q (by decide))
    exact J84 (pr ++ ns) (by rw [hX]; simp only [List.append_assoc, List.cons_append, List.nil_append])
  · skip
    rw [if_neg hls] at hX
    refine Road.nameI ?_
    intro z_30 hz_30
    obtain rfl : z_30 = (0 : Int32) := by rw [hz_30]; rw [if_neg hls]
    refine Road.if_ne 28 84 bCks_d28 rfl (fun q => absurd q (by decide)) (fun hc28 => ?_)
    have hu1 : X = (pr ++ ns) ++ ([123] ++ (ls ++ ([125] ++ ([32] ++ (vs ++ ([10] ++ po)))))) := by rw [hX]; simp only [List.append_assoc, List.cons_append, List.nil_append]
    refine Road.aloadN 31 bCks_d31 rfl ?_
    refine Road.iload 32 bCks_d32 rfl ?_
    refine Road.callV (B' := bChX) (a := t) 34 (argsL := [(.int (Nat.toInt32 (pr ++ ns).length))]) (rest := []) "java/lang/String" 0 bCks_d34 (wI hw 197 rfl) (wI hw 198 rfl) (fun vm hz => Road.notFace_sib (args := #[]) (mv (s := D.s.setVm vm) hz (wI hw 83 rfl)) rfl) (wI hw 200 rfl) (wI hw 199 rfl) (wI hw 7 rfl) (wI hw 201 rfl) (by decide) Et (cChX l Z a0 hw n0 hEW t td X (pr ++ ns).length (123 : Int32) h0 σ T (Road.one_at hu1) cp Hc hcp fm hfm Hf H0 H1 H2) (lenOf bChX_pd rfl) rfl rfl rfl (by decide) (by decide) (ce' := 0) (sl' := 0) rfl rfl (by decide) (by decide) ?_
    rintro _ h_31 σ_32 m_33 ⟨rfl, rfl⟩
    refine Road.Go.weaken (σ' := σ) m_33 (Nat.le_refl _) (Nat.le_refl _) ?_
    refine Road.bipush 37 (123 : Int32) bCks_d37 rfl ?_
    refine Road.icmp_eq 39 44 bCks_d39 rfl (fun hc39 => ?_) (fun q => absurd q (by simp))
    refine Road.iinc 44 (1) #[.val (.ref t), .val (.int (Nat.toInt32 pr.length)), .val (.ref n), .val (.ref y), .val (.ref v), .val (.int ((Nat.toInt32 (pr ++ ns).length) + 1))] bCks_d44 rfl rfl rfl ?_
    rw [show (((Nat.toInt32 (pr ++ ns).length) + 1) : Int32) = (Nat.toInt32 (pr ++ ns ++ ([123] : List Int32)).length) from by rw [List.length_append (as := pr ++ ns)]; exact Road.succ32 _]
    have hu2 : X = (pr ++ ns ++ ([123] : List Int32)) ++ (ls ++ ([125] ++ ([32] ++ (vs ++ ([10] ++ po))))) := by rw [hX]; simp only [List.append_assoc, List.cons_append, List.nil_append]
    refine Road.aloadN 47 bCks_d47 rfl ?_
    refine Road.iload 48 bCks_d48 rfl ?_
    refine Road.aloadN 50 bCks_d50 rfl ?_
    refine Road.callS (B' := bEqx) 51 (argsL := [(.ref t), (.int (Nat.toInt32 (pr ++ ns ++ ([123] : List Int32)).length)), (.ref y)]) (rest := []) 0 bCks_d51 (wI hw 194 rfl) (wI hw 195 rfl) (wI hw 2 rfl) (wI hw 196 rfl) (by decide) (cEqx l Z a0 hw n0 hEW t td y yd X ls (pr ++ ns ++ ([123] : List Int32)).length h0 σ T Ty hy (Road.mid_at hu2) cp Hc hcp fm hfm Hf H0 H1 H2) (lenOf bEqx_pd rfl) rfl rfl rfl (by decide) (by decide) (ce' := 0) (sl' := 0) rfl rfl (by decide) (by decide) ?_
    rintro _ h_35 σ_36 m_37 ⟨rfl, rfl⟩
    refine Road.Go.weaken (σ' := σ) m_37 (Nat.le_refl _) (Nat.le_refl _) ?_
    refine Road.if_ne 54 59 bCks_d54 rfl (fun hc54 => ?_) (fun q => absurd q (by decide))
    refine Road.iload 59 bCks_d59 rfl ?_
    refine Road.aloadN 61 bCks_d61 rfl ?_
    refine Road.callV (B' := bLnX) (a := y) 62 (argsL := []) (rest := [(.int (Nat.toInt32 (pr ++ ns ++ ([123] : List Int32)).length))]) "java/lang/String" 1 bCks_d62 (wI hw 189 rfl) (wI hw 81 rfl) (fun vm hz => Road.notFace_sib (args := #[]) (mv (s := D.s.setVm vm) hz (wI hw 83 rfl)) rfl) (wI hw 83 rfl) (wI hw 82 rfl) (wI hw 7 rfl) (wI hw 84 rfl) (by decide) Ey (cLnX l Z a0 hw n0 hEW y yd ls h0 σ Ty cp Hc hcp) (lenOf bLnX_pd rfl) rfl rfl rfl (by decide) (by decide) (ce' := 0) (sl' := 0) rfl rfl (by decide) (by decide) ?_
    rintro _ h_39 σ_40 m_41 ⟨rfl, rfl⟩
    refine Road.Go.weaken (σ' := σ) m_41 (Nat.le_refl _) (Nat.le_refl _) ?_
    refine Road.iadd 65 bCks_d65 ?_
    refine Road.istore 66 #[.val (.ref t), .val (.int (Nat.toInt32 pr.length)), .val (.ref n), .val (.ref y), .val (.ref v), .val (.int ((Nat.toInt32 (pr ++ ns ++ ([123] : List Int32)).length) + (Nat.toInt32 ls.length)))] bCks_d66 rfl ?_
    rw [show (((Nat.toInt32 (pr ++ ns ++ ([123] : List Int32)).length) + (Nat.toInt32 ls.length)) : Int32) = (Nat.toInt32 (pr ++ ns ++ ([123] : List Int32) ++ ls).length) from by rw [Road.add32n, ← List.length_append]]
    have hu3 : X = (pr ++ ns ++ ([123] : List Int32) ++ ls) ++ ([125] ++ ([32] ++ (vs ++ ([10] ++ po)))) := by rw [hX]; simp only [List.append_assoc, List.cons_append, List.nil_append]
    refine Road.aloadN 68 bCks_d68 rfl ?_
    refine Road.iload 69 bCks_d69 rfl ?_
    refine Road.callV (B' := bChX) (a := t) 71 (argsL := [(.int (Nat.toInt32 (pr ++ ns ++ ([123] : List Int32) ++ ls).length))]) (rest := []) "java/lang/String" 0 bCks_d71 (wI hw 197 rfl) (wI hw 198 rfl) (fun vm hz => Road.notFace_sib (args := #[]) (mv (s := D.s.setVm vm) hz (wI hw 83 rfl)) rfl) (wI hw 200 rfl) (wI hw 199 rfl) (wI hw 7 rfl) (wI hw 201 rfl) (by decide) Et (cChX l Z a0 hw n0 hEW t td X (pr ++ ns ++ ([123] : List Int32) ++ ls).length (125 : Int32) h0 σ T (Road.one_at hu3) cp Hc hcp fm hfm Hf H0 H1 H2) (lenOf bChX_pd rfl) rfl rfl rfl (by decide) (by decide) (ce' := 0) (sl' := 0) rfl rfl (by decide) (by decide) ?_
    rintro _ h_43 σ_44 m_45 ⟨rfl, rfl⟩
    refine Road.Go.weaken (σ' := σ) m_45 (Nat.le_refl _) (Nat.le_refl _) ?_
    refine Road.bipush 74 (125 : Int32) bCks_d74 rfl ?_
    refine Road.icmp_eq 76 81 bCks_d76 rfl (fun hc76 => ?_) (fun q => absurd q (by simp))
    refine Road.iinc 81 (1) #[.val (.ref t), .val (.int (Nat.toInt32 pr.length)), .val (.ref n), .val (.ref y), .val (.ref v), .val (.int ((Nat.toInt32 (pr ++ ns ++ ([123] : List Int32) ++ ls).length) + 1))] bCks_d81 rfl rfl rfl ?_
    rw [show (((Nat.toInt32 (pr ++ ns ++ ([123] : List Int32) ++ ls).length) + 1) : Int32) = (Nat.toInt32 (pr ++ ns ++ ([123] : List Int32) ++ ls ++ ([125] : List Int32)).length) from by rw [List.length_append (as := pr ++ ns ++ ([123] : List Int32) ++ ls)]; exact Road.succ32 _]
    exact J84 (pr ++ ns ++ ([123] : List Int32) ++ ls ++ ([125] : List Int32)) (by rw [hX]; simp only [List.append_assoc, List.cons_append, List.nil_append])
def b0 : Road.Bdy := (x, code, maxLocals, ret, room_1)
theorem b0_d0 : decode b0.bs 0 = .ok (.iload_n 3, 1) := at_0
theorem b0_d1 : decode b0.bs 1 = .ok (.iconst 3, 1) := at_1
theorem b0_d2 : decode b0.bs 2 = .ok (.iand, 1) := at_2
theorem b0_d3 : decode b0.bs 3 = .ok (.iconst 3, 1) := at_3
theorem b0_d4 : decode b0.bs 4 = .ok (.irem, 1) := at_4
theorem b0_d5 : decode b0.bs 5 = .ok (.istore 4, 2) := at_5
theorem b0_d7 : decode b0.bs 7 = .ok (.iload_n 3, 1) := at_7
theorem b0_d8 : decode b0.bs 8 = .ok (.iconst 2, 1) := at_8
theorem b0_d9 : decode b0.bs 9 = .ok (.iushr, 1) := at_9
theorem b0_d10 : decode b0.bs 10 = .ok (.iconst 3, 1) := at_10
theorem b0_d11 : decode b0.bs 11 = .ok (.iand, 1) := at_11
theorem b0_d12 : decode b0.bs 12 = .ok (.iconst 3, 1) := at_12
theorem b0_d13 : decode b0.bs 13 = .ok (.irem, 1) := at_13
theorem b0_d14 : decode b0.bs 14 = .ok (.istore 5, 2) := at_14
theorem b0_d16 : decode b0.bs 16 = .ok (.iload_n 3, 1) := at_16
theorem b0_d17 : decode b0.bs 17 = .ok (.iconst 4, 1) := at_17
theorem b0_d18 : decode b0.bs 18 = .ok (.iushr, 1) := at_18
theorem b0_d19 : decode b0.bs 19 = .ok (.iconst 3, 1) := at_19
theorem b0_d20 : decode b0.bs 20 = .ok (.iand, 1) := at_20
theorem b0_d21 : decode b0.bs 21 = .ok (.iconst 3, 1) := at_21
theorem b0_d22 : decode b0.bs 22 = .ok (.irem, 1) := at_22
theorem b0_d23 : decode b0.bs 23 = .ok (.istore 6, 2) := at_23
theorem b0_d25 : decode b0.bs 25 = .ok (.iload_n 0, 1) := at_25
theorem b0_d26 : decode b0.bs 26 = .ok (.iload 4, 2) := at_26
theorem b0_d28 : decode b0.bs 28 = .ok (.invokestatic 31, 3) := at_28
theorem b0_d31 : decode b0.bs 31 = .ok (.astore 7, 2) := at_31
theorem b0_d33 : decode b0.bs 33 = .ok (.iload_n 1, 1) := at_33
theorem b0_d34 : decode b0.bs 34 = .ok (.iload 5, 2) := at_34
theorem b0_d36 : decode b0.bs 36 = .ok (.invokestatic 31, 3) := at_36
theorem b0_d39 : decode b0.bs 39 = .ok (.astore 8, 2) := at_39
theorem b0_d41 : decode b0.bs 41 = .ok (.iload_n 2, 1) := at_41
theorem b0_d42 : decode b0.bs 42 = .ok (.iload 6, 2) := at_42
theorem b0_d44 : decode b0.bs 44 = .ok (.invokestatic 31, 3) := at_44
theorem b0_d47 : decode b0.bs 47 = .ok (.astore 9, 2) := at_47
theorem b0_d49 : decode b0.bs 49 = .ok (.new 35, 3) := at_49
theorem b0_d52 : decode b0.bs 52 = .ok (.dup, 1) := at_52
theorem b0_d53 : decode b0.bs 53 = .ok (.invokespecial 37, 3) := at_53
theorem b0_d56 : decode b0.bs 56 = .ok (.astore 10, 2) := at_56
theorem b0_d58 : decode b0.bs 58 = .ok (.aload 10, 2) := at_58
theorem b0_d60 : decode b0.bs 60 = .ok (.aload 7, 2) := at_60
theorem b0_d62 : decode b0.bs 62 = .ok (.aload 8, 2) := at_62
theorem b0_d64 : decode b0.bs 64 = .ok (.aload 9, 2) := at_64
theorem b0_d66 : decode b0.bs 66 = .ok (.invokevirtual 38, 3) := at_66
theorem b0_d69 : decode b0.bs 69 = .ok (.aload 10, 2) := at_69
theorem b0_d71 : decode b0.bs 71 = .ok (.aload 9, 2) := at_71
theorem b0_d73 : decode b0.bs 73 = .ok (.aload 7, 2) := at_73
theorem b0_d75 : decode b0.bs 75 = .ok (.aload 8, 2) := at_75
theorem b0_d77 : decode b0.bs 77 = .ok (.invokevirtual 38, 3) := at_77
theorem b0_d80 : decode b0.bs 80 = .ok (.aload 10, 2) := at_80
theorem b0_d82 : decode b0.bs 82 = .ok (.invokevirtual 42, 3) := at_82
theorem b0_d85 : decode b0.bs 85 = .ok (.astore 11, 2) := at_85
theorem b0_d87 : decode b0.bs 87 = .ok (.aload 7, 2) := at_87
theorem b0_d89 : decode b0.bs 89 = .ok (.aload 8, 2) := at_89
theorem b0_d91 : decode b0.bs 91 = .ok (.aload 9, 2) := at_91
theorem b0_d93 : decode b0.bs 93 = .ok (.invokestatic 46, 3) := at_93
theorem b0_d96 : decode b0.bs 96 = .ok (.istore 12, 2) := at_96
theorem b0_d98 : decode b0.bs 98 = .ok (.aload 9, 2) := at_98
theorem b0_d100 : decode b0.bs 100 = .ok (.aload 7, 2) := at_100
theorem b0_d102 : decode b0.bs 102 = .ok (.aload 8, 2) := at_102
theorem b0_d104 : decode b0.bs 104 = .ok (.invokestatic 46, 3) := at_104
theorem b0_d107 : decode b0.bs 107 = .ok (.istore 13, 2) := at_107
theorem b0_d109 : decode b0.bs 109 = .ok (.aload 11, 2) := at_109
theorem b0_d111 : decode b0.bs 111 = .ok (.invokevirtual 13, 3) := at_111
theorem b0_d114 : decode b0.bs 114 = .ok (.iload 12, 2) := at_114
theorem b0_d116 : decode b0.bs 116 = .ok (.iload 13, 2) := at_116
theorem b0_d118 : decode b0.bs 118 = .ok (.iadd, 1) := at_118
theorem b0_d119 : decode b0.bs 119 = .ok (.if_icmp .eq 5, 3) := at_119
theorem b0_d122 : decode b0.bs 122 = .ok (.iconst 0, 1) := at_122
theorem b0_d123 : decode b0.bs 123 = .ok (.ireturn, 1) := at_123
theorem b0_d124 : decode b0.bs 124 = .ok (.aload 11, 2) := at_124
theorem b0_d126 : decode b0.bs 126 = .ok (.iconst 0, 1) := at_126
theorem b0_d127 : decode b0.bs 127 = .ok (.aload 7, 2) := at_127
theorem b0_d129 : decode b0.bs 129 = .ok (.aload 8, 2) := at_129
theorem b0_d131 : decode b0.bs 131 = .ok (.aload 9, 2) := at_131
theorem b0_d133 : decode b0.bs 133 = .ok (.invokestatic 50, 3) := at_133
theorem b0_d136 : decode b0.bs 136 = .ok (.ifCond .eq 23, 3) := at_136
theorem b0_d139 : decode b0.bs 139 = .ok (.aload 11, 2) := at_139
theorem b0_d141 : decode b0.bs 141 = .ok (.iload 12, 2) := at_141
theorem b0_d143 : decode b0.bs 143 = .ok (.aload 9, 2) := at_143
theorem b0_d145 : decode b0.bs 145 = .ok (.aload 7, 2) := at_145
theorem b0_d147 : decode b0.bs 147 = .ok (.aload 8, 2) := at_147
theorem b0_d149 : decode b0.bs 149 = .ok (.invokestatic 50, 3) := at_149
theorem b0_d152 : decode b0.bs 152 = .ok (.ifCond .eq 7, 3) := at_152
theorem b0_d155 : decode b0.bs 155 = .ok (.iconst 1, 1) := at_155
theorem b0_d156 : decode b0.bs 156 = .ok (.goto 4, 3) := at_156
theorem b0_d159 : decode b0.bs 159 = .ok (.iconst 0, 1) := at_159
theorem b0_d160 : decode b0.bs 160 = .ok (.ireturn, 1) := at_160
theorem b0_pd : parseMethodDescriptor "(IIII)Z" = some ⟨[.int, .int, .int, .int], (some .boolean)⟩ := by decide +kernel
theorem b0_pn : plainFor b0.y = true := plainFor_of_name (show plainName "com/example/meerkat/meerkat/metrics/ExpositionSamplePinLaw" = true from by first | (simp [plainName, overriddenIn]; done) | decide +kernel)
set_option maxHeartbeats 4000000 in
theorem law (l : Launch) (Z : State) (a0 : Array Value) (hw : ∀ d ∈ tables_1, d.before a0 Z = true) (n0 : Nat) (hEW : EW Z a0 consts_1) (p0 p1 p2 p3 : Int32) (h0 : Heap) (σ : Addr → Prop) (cp : Int32) (Hc : Sta Z Z.heap Road.SN "COMPACT_STRINGS" "Z" (.int cp)) (hcp : ¬ cp = 0) (fm : Value) (hfm : fm.isRef = true) (Hf : Sta Z Z.heap "jdk/internal/util/Preconditions" "SIOOBE_FORMATTER" "Ljava/util/function/BiFunction;" fm) (H0 : Sta Z Z.heap "java/lang/StringUTF16" "$assertionsDisabled" "Z" (.int 1)) (H1 : Sta Z Z.heap "java/lang/StringUTF16" "HI_BYTE_SHIFT" "I" (.int 0)) (H2 : Sta Z Z.heap "java/lang/StringUTF16" "LO_BYTE_SHIFT" "I" (.int 8)) (ws : List Jvm.Cond) :
    Road.Con l Z consts_1 n0 false b0 ws σ #[(.int p0), (.int p1), (.int p2), (.int p3)] h0 (fun v h2 _ => v = some (.int 1)) := by
  refine Road.Con.of b0_pn hEW #[.val (.int p0), .val (.int p1), .val (.int p2), .val (.int p3), .unset, .unset, .unset, .unset, .unset, .unset, .unset, .unset, .unset, .unset] (fun m => Road.ent (Road.laid1 rfl (Road.laid1 rfl (Road.laid1 rfl (Road.laid1 rfl Road.laid0)))) (k := 10) rfl rfl) ?_
  intro D hD
  refine Road.iloadN 0 b0_d0 rfl ?_
  refine Road.iconst 1 (3 : Int32) b0_d1 rfl ?_
  refine Road.iand 2 b0_d2 ?_
  refine Road.iconst 3 (3 : Int32) b0_d3 rfl ?_
  refine Road.irem 4 b0_d4 (by decide) ?_
  refine Road.nameI ?_
  intro k0 hk0
  have rk0 : k0 = 0 ∨ k0 = 1 ∨ k0 = 2 := by rw [hk0]; exact Road.and3rem _
  clear hk0
  refine Road.istore 5 #[.val (.int p0), .val (.int p1), .val (.int p2), .val (.int p3), .val (.int k0), .unset, .unset, .unset, .unset, .unset, .unset, .unset, .unset, .unset] b0_d5 rfl ?_
  refine Road.iloadN 7 b0_d7 rfl ?_
  refine Road.iconst 8 (2 : Int32) b0_d8 rfl ?_
  refine Road.iushr 9 b0_d9 ?_
  refine Road.iconst 10 (3 : Int32) b0_d10 rfl ?_
  refine Road.iand 11 b0_d11 ?_
  refine Road.iconst 12 (3 : Int32) b0_d12 rfl ?_
  refine Road.irem 13 b0_d13 (by decide) ?_
  refine Road.nameI ?_
  intro k1 hk1
  have rk1 : k1 = 0 ∨ k1 = 1 ∨ k1 = 2 := by rw [hk1]; exact Road.and3rem _
  clear hk1
  refine Road.istore 14 #[.val (.int p0), .val (.int p1), .val (.int p2), .val (.int p3), .val (.int k0), .val (.int k1), .unset, .unset, .unset, .unset, .unset, .unset, .unset, .unset] b0_d14 rfl ?_
  refine Road.iloadN 16 b0_d16 rfl ?_
  refine Road.iconst 17 (4 : Int32) b0_d17 rfl ?_
  refine Road.iushr 18 b0_d18 ?_
  refine Road.iconst 19 (3 : Int32) b0_d19 rfl ?_
  refine Road.iand 20 b0_d20 ?_
  refine Road.iconst 21 (3 : Int32) b0_d21 rfl ?_
  refine Road.irem 22 b0_d22 (by decide) ?_
  refine Road.nameI ?_
  intro k2 hk2
  have rk2 : k2 = 0 ∨ k2 = 1 ∨ k2 = 2 := by rw [hk2]; exact Road.and3rem _
  clear hk2
  refine Road.istore 23 #[.val (.int p0), .val (.int p1), .val (.int p2), .val (.int p3), .val (.int k0), .val (.int k1), .val (.int k2), .unset, .unset, .unset, .unset, .unset, .unset, .unset] b0_d23 rfl ?_
  refine Road.iloadN 25 b0_d25 rfl ?_
  refine Road.iload 26 b0_d26 rfl ?_
  refine Road.callS (B' := bMk) 28 (argsL := [(.int p0), (.int k0)]) (rest := []) 0 b0_d28 (wI hw 0 rfl) (wI hw 1 rfl) (wI hw 2 rfl) (wI hw 3 rfl) (by decide) (cMk l Z a0 hw n0 hEW p0 k0 h0 σ rk0 cp Hc hcp H0 H1 H2) (lenOf bMk_pd rfl) rfl rfl rfl (by decide) (by decide) (ce' := 6) (sl' := 14) rfl rfl (by decide) (by decide) ?_
  rintro _ h_1 σ_2 m_3 ⟨n, nd, ns, rfl, K_4, Tn, hn⟩
  have ltn : n < h_1.size ∧ nd < h_1.size := Tn.elim (fun q => ⟨q.lt, q.ltb⟩) (fun q => ⟨q.lt, q.ltb⟩)
  refine Road.astore 31 #[.val (.int p0), .val (.int p1), .val (.int p2), .val (.int p3), .val (.int k0), .val (.int k1), .val (.int k2), .val (.ref n), .unset, .unset, .unset, .unset, .unset, .unset] b0_d31 rfl ?_
  refine Road.iloadN 33 b0_d33 rfl ?_
  refine Road.iload 34 b0_d34 rfl ?_
  refine Road.callS (B' := bMk) 36 (argsL := [(.int p1), (.int k1)]) (rest := []) 0 b0_d36 (wI hw 0 rfl) (wI hw 1 rfl) (wI hw 2 rfl) (wI hw 3 rfl) (by decide) (cMk l Z a0 hw n0 hEW p1 k1 h_1 σ_2 rk1 cp Hc hcp H0 H1 H2) (lenOf bMk_pd rfl) rfl rfl rfl (by decide) (by decide) (ce' := 12) (sl' := 28) rfl rfl (by decide) (by decide) ?_
  rintro _ h_5 σ_6 m_7 ⟨y, yd, ls, rfl, K_8, Ty, hy⟩
  replace Tn := Tn.imp (fun q => q.keep K_8 nin0 nin0) (fun q => q.keep K_8 nin0 nin0)
  have lty : y < h_5.size ∧ yd < h_5.size := Ty.elim (fun q => ⟨q.lt, q.ltb⟩) (fun q => ⟨q.lt, q.ltb⟩)
  refine Road.astore 39 #[.val (.int p0), .val (.int p1), .val (.int p2), .val (.int p3), .val (.int k0), .val (.int k1), .val (.int k2), .val (.ref n), .val (.ref y), .unset, .unset, .unset, .unset, .unset] b0_d39 rfl ?_
  refine Road.iloadN 41 b0_d41 rfl ?_
  refine Road.iload 42 b0_d42 rfl ?_
  refine Road.callS (B' := bMk) 44 (argsL := [(.int p2), (.int k2)]) (rest := []) 0 b0_d44 (wI hw 0 rfl) (wI hw 1 rfl) (wI hw 2 rfl) (wI hw 3 rfl) (by decide) (cMk l Z a0 hw n0 hEW p2 k2 h_5 σ_6 rk2 cp Hc hcp H0 H1 H2) (lenOf bMk_pd rfl) rfl rfl rfl (by decide) (by decide) (ce' := 18) (sl' := 42) rfl rfl (by decide) (by decide) ?_
  rintro _ h_9 σ_10 m_11 ⟨v, vd, vs, rfl, K_12, Tv, hv⟩
  replace Tn := Tn.imp (fun q => q.keep K_12 nin0 nin0) (fun q => q.keep K_12 nin0 nin0)
  replace Ty := Ty.imp (fun q => q.keep K_12 nin0 nin0) (fun q => q.keep K_12 nin0 nin0)
  have ltv : v < h_9.size ∧ vd < h_9.size := Tv.elim (fun q => ⟨q.lt, q.ltb⟩) (fun q => ⟨q.lt, q.ltb⟩)
  refine Road.astore 47 #[.val (.int p0), .val (.int p1), .val (.int p2), .val (.int p3), .val (.int k0), .val (.int k1), .val (.int k2), .val (.ref n), .val (.ref y), .val (.ref v), .unset, .unset, .unset, .unset] b0_d47 rfl ?_
  refine Road.new 49 "com/example/meerkat/meerkat/metrics/Exposition" b0_d49 (wI hw 38 rfl) (wI hw 39 rfl) (wI hw 40 rfl) (ce' := 19) (sl' := 43) rfl rfl (by decide) (by decide) ?_
  intro e h_13 σ_14 g_15 K_16 lt_17 m_18 s_19 Ee D_20 M_21
  have ne_n_e : n ≠ e := Nat.ne_of_lt (Nat.lt_of_lt_of_le (Tn.elim (fun q => q.lt) (fun q => q.lt)) (Nat.le_of_eq g_15.symm))
  have ne_nd_e : nd ≠ e := Nat.ne_of_lt (Nat.lt_of_lt_of_le (Tn.elim (fun q => q.ltb) (fun q => q.ltb)) (Nat.le_of_eq g_15.symm))
  have ne_y_e : y ≠ e := Nat.ne_of_lt (Nat.lt_of_lt_of_le (Ty.elim (fun q => q.lt) (fun q => q.lt)) (Nat.le_of_eq g_15.symm))
  have ne_yd_e : yd ≠ e := Nat.ne_of_lt (Nat.lt_of_lt_of_le (Ty.elim (fun q => q.ltb) (fun q => q.ltb)) (Nat.le_of_eq g_15.symm))
  have ne_v_e : v ≠ e := Nat.ne_of_lt (Nat.lt_of_lt_of_le (Tv.elim (fun q => q.lt) (fun q => q.lt)) (Nat.le_of_eq g_15.symm))
  have ne_vd_e : vd ≠ e := Nat.ne_of_lt (Nat.lt_of_lt_of_le (Tv.elim (fun q => q.ltb) (fun q => q.ltb)) (Nat.le_of_eq g_15.symm))
  replace Tn := Tn.imp (fun q => q.keep K_16 nin0 nin0) (fun q => q.keep K_16 nin0 nin0)
  replace Ty := Ty.imp (fun q => q.keep K_16 nin0 nin0) (fun q => q.keep K_16 nin0 nin0)
  replace Tv := Tv.imp (fun q => q.keep K_16 nin0 nin0) (fun q => q.keep K_16 nin0 nin0)
  have Fe := D_20 (Or.inr (wI hw 64 rfl)) (ty := (.object "java/lang/StringBuilder")) (by decide)
  refine Road.dup 52 b0_d52 ?_
  refine Road.callI (B' := bXpI) (a := e) 53 (argsL := []) (rest := [(.ref e)]) 1 b0_d53 (wI hw 41 rfl) (wI hw 42 rfl) (wI hw 40 rfl) (wI hw 43 rfl) rfl rfl (by decide) (cXpI l Z a0 hw n0 hEW e h_13 σ_14 Ee Fe s_19 cp Hc hcp) (lenOf bXpI_pd rfl) rfl rfl rfl (by decide) (by decide) (ce' := 21) (sl' := 63) rfl rfl (by decide) (by decide) ?_
  rintro _ h_22 σ_23 m_24 ⟨rfl, K_25, q, b, Fe, S, gq, gb, sq, sb⟩
  have ne_n_q : n ≠ q := Nat.ne_of_lt (Nat.lt_of_lt_of_le (Tn.elim (fun q => q.lt) (fun q => q.lt)) gq)
  have ne_nd_q : nd ≠ q := Nat.ne_of_lt (Nat.lt_of_lt_of_le (Tn.elim (fun q => q.ltb) (fun q => q.ltb)) gq)
  have ne_y_q : y ≠ q := Nat.ne_of_lt (Nat.lt_of_lt_of_le (Ty.elim (fun q => q.lt) (fun q => q.lt)) gq)
  have ne_yd_q : yd ≠ q := Nat.ne_of_lt (Nat.lt_of_lt_of_le (Ty.elim (fun q => q.ltb) (fun q => q.ltb)) gq)
  have ne_v_q : v ≠ q := Nat.ne_of_lt (Nat.lt_of_lt_of_le (Tv.elim (fun q => q.lt) (fun q => q.lt)) gq)
  have ne_vd_q : vd ≠ q := Nat.ne_of_lt (Nat.lt_of_lt_of_le (Tv.elim (fun q => q.ltb) (fun q => q.ltb)) gq)
  have ne_e_q : e ≠ q := Nat.ne_of_lt (Nat.lt_of_lt_of_le Ee.lt gq)
  have ne_n_b : n ≠ b := Nat.ne_of_lt (Nat.lt_of_lt_of_le (Tn.elim (fun q => q.lt) (fun q => q.lt)) gb)
  have ne_nd_b : nd ≠ b := Nat.ne_of_lt (Nat.lt_of_lt_of_le (Tn.elim (fun q => q.ltb) (fun q => q.ltb)) gb)
  have ne_y_b : y ≠ b := Nat.ne_of_lt (Nat.lt_of_lt_of_le (Ty.elim (fun q => q.lt) (fun q => q.lt)) gb)
  have ne_yd_b : yd ≠ b := Nat.ne_of_lt (Nat.lt_of_lt_of_le (Ty.elim (fun q => q.ltb) (fun q => q.ltb)) gb)
  have ne_v_b : v ≠ b := Nat.ne_of_lt (Nat.lt_of_lt_of_le (Tv.elim (fun q => q.lt) (fun q => q.lt)) gb)
  have ne_vd_b : vd ≠ b := Nat.ne_of_lt (Nat.lt_of_lt_of_le (Tv.elim (fun q => q.ltb) (fun q => q.ltb)) gb)
  have ne_e_b : e ≠ b := Nat.ne_of_lt (Nat.lt_of_lt_of_le Ee.lt gb)
  replace Tn := Tn.imp (fun q => q.keep K_25 (ninS ne_n_e nin0) (ninS ne_nd_e nin0)) (fun q => q.keep K_25 (ninS ne_n_e nin0) (ninS ne_nd_e nin0))
  replace Ty := Ty.imp (fun q => q.keep K_25 (ninS ne_y_e nin0) (ninS ne_yd_e nin0)) (fun q => q.keep K_25 (ninS ne_y_e nin0) (ninS ne_yd_e nin0))
  replace Tv := Tv.imp (fun q => q.keep K_25 (ninS ne_v_e nin0) (ninS ne_vd_e nin0)) (fun q => q.keep K_25 (ninS ne_v_e nin0) (ninS ne_vd_e nin0))
  replace Ee := Ee.keep K_25
  replace s_19 := m_24 _ s_19
  refine Road.astore 56 #[.val (.int p0), .val (.int p1), .val (.int p2), .val (.int p3), .val (.int k0), .val (.int k1), .val (.int k2), .val (.ref n), .val (.ref y), .val (.ref v), .val (.ref e), .unset, .unset, .unset] b0_d56 rfl ?_
  refine Road.aload 58 b0_d58 rfl ?_
  refine Road.aload 60 b0_d60 rfl ?_
  refine Road.aload 62 b0_d62 rfl ?_
  refine Road.aload 64 b0_d64 rfl ?_
  have hL1 : (ns ++ ((if ls = [] then ([] : List Int32) else [123] ++ ls ++ [125]) ++ ([32] ++ (vs ++ [10])))).length ≤ 10 ∧ 2 ≤ (ns ++ ((if ls = [] then ([] : List Int32) else [123] ++ ls ++ [125]) ++ ([32] ++ (vs ++ [10])))).length := by split <;> simp only [List.length_append, List.length_cons, List.length_nil] <;> omega
  have hL2 : (vs ++ ((if ns = [] then ([] : List Int32) else [123] ++ ns ++ [125]) ++ ([32] ++ (ls ++ [10])))).length ≤ 10 := (by split <;> simp only [List.length_append, List.length_cons, List.length_nil] <;> omega)
  have lt_e_d1 := Ee.lt
  have lt_n_d1 := (Tn.elim (fun q => q.lt) (fun q => q.lt))
  have lt_nd_d1 := (Tn.elim (fun q => q.ltb) (fun q => q.ltb))
  have lt_y_d1 := (Ty.elim (fun q => q.lt) (fun q => q.lt))
  have lt_yd_d1 := (Ty.elim (fun q => q.ltb) (fun q => q.ltb))
  have lt_v_d1 := (Tv.elim (fun q => q.lt) (fun q => q.lt))
  have lt_vd_d1 := (Tv.elim (fun q => q.ltb) (fun q => q.ltb))
  refine Road.callV (B' := bSam) (a := e) 66 (argsL := [(.ref n), (.ref y), (.ref v)]) (rest := []) "com/example/meerkat/meerkat/metrics/Exposition" 0 b0_d66 (wI hw 65 rfl) (wI hw 66 rfl) (fun vm hz => Road.notFace_sib (args := #[]) (mv (s := D.s.setVm vm) hz (wI hw 68 rfl)) rfl) (wI hw 68 rfl) (wI hw 67 rfl) (wI hw 40 rfl) (wI hw 69 rfl) (by decide) Ee (cSam l Z a0 hw n0 hEW e q b n nd y yd v vd ns ls vs [] 16 h_22 σ_23 Fe (Or.inl S) (Or.inl rfl) (by simp) Tn hn Ty hy Tv hv ne_e_q ne_e_b ne_n_q ne_n_b ne_nd_q ne_nd_b ne_y_q ne_y_b ne_yd_q ne_yd_b ne_v_q ne_v_b ne_vd_q ne_vd_b sb sq cp Hc hcp fm hfm Hf H0 H1 H2) (lenOf bSam_pd rfl) rfl rfl rfl (by decide) (by decide) (ce' := 23) (sl' := 199) rfl rfl (by decide) (by decide) ?_
  rintro _ h_27 σ_28 m_29 ⟨rfl, K_30, d1, N1, S1, hN1, gd1, sq1, sd1⟩
  replace Tn := Tn.imp (fun q => q.keep K_30 (ninS ne_n_q (ninS ne_n_b nin0)) (ninS ne_nd_q (ninS ne_nd_b nin0))) (fun q => q.keep K_30 (ninS ne_n_q (ninS ne_n_b nin0)) (ninS ne_nd_q (ninS ne_nd_b nin0)))
  replace Ty := Ty.imp (fun q => q.keep K_30 (ninS ne_y_q (ninS ne_y_b nin0)) (ninS ne_yd_q (ninS ne_yd_b nin0))) (fun q => q.keep K_30 (ninS ne_y_q (ninS ne_y_b nin0)) (ninS ne_yd_q (ninS ne_yd_b nin0)))
  replace Tv := Tv.imp (fun q => q.keep K_30 (ninS ne_v_q (ninS ne_v_b nin0)) (ninS ne_vd_q (ninS ne_vd_b nin0))) (fun q => q.keep K_30 (ninS ne_v_q (ninS ne_v_b nin0)) (ninS ne_vd_q (ninS ne_vd_b nin0)))
  replace Ee := Ee.keep K_30
  replace Fe := Fe.keep K_30 (ninS ne_e_q (ninS ne_e_b nin0))
  replace s_19 := m_29 _ s_19
  replace sq := m_29 _ sq
  replace sb := m_29 _ sb
  have ne_e_d1 : e ≠ d1 := by rcases gd1 with gz | gz; rw [gz]; exact ne_e_b; exact Nat.ne_of_lt (Nat.lt_of_lt_of_le lt_e_d1 gz)
  have ne_n_d1 : n ≠ d1 := by rcases gd1 with gz | gz; rw [gz]; exact ne_n_b; exact Nat.ne_of_lt (Nat.lt_of_lt_of_le lt_n_d1 gz)
  have ne_nd_d1 : nd ≠ d1 := by rcases gd1 with gz | gz; rw [gz]; exact ne_nd_b; exact Nat.ne_of_lt (Nat.lt_of_lt_of_le lt_nd_d1 gz)
  have ne_y_d1 : y ≠ d1 := by rcases gd1 with gz | gz; rw [gz]; exact ne_y_b; exact Nat.ne_of_lt (Nat.lt_of_lt_of_le lt_y_d1 gz)
  have ne_yd_d1 : yd ≠ d1 := by rcases gd1 with gz | gz; rw [gz]; exact ne_yd_b; exact Nat.ne_of_lt (Nat.lt_of_lt_of_le lt_yd_d1 gz)
  have ne_v_d1 : v ≠ d1 := by rcases gd1 with gz | gz; rw [gz]; exact ne_v_b; exact Nat.ne_of_lt (Nat.lt_of_lt_of_le lt_v_d1 gz)
  have ne_vd_d1 : vd ≠ d1 := by rcases gd1 with gz | gz; rw [gz]; exact ne_vd_b; exact Nat.ne_of_lt (Nat.lt_of_lt_of_le lt_vd_d1 gz)
  refine Road.aload 69 b0_d69 rfl ?_
  refine Road.aload 71 b0_d71 rfl ?_
  refine Road.aload 73 b0_d73 rfl ?_
  refine Road.aload 75 b0_d75 rfl ?_
  have lt_e_d2 := Ee.lt
  have lt_n_d2 := (Tn.elim (fun q => q.lt) (fun q => q.lt))
  have lt_nd_d2 := (Tn.elim (fun q => q.ltb) (fun q => q.ltb))
  have lt_y_d2 := (Ty.elim (fun q => q.lt) (fun q => q.lt))
  have lt_yd_d2 := (Ty.elim (fun q => q.ltb) (fun q => q.ltb))
  have lt_v_d2 := (Tv.elim (fun q => q.lt) (fun q => q.lt))
  have lt_vd_d2 := (Tv.elim (fun q => q.ltb) (fun q => q.ltb))
  refine Road.callV (B' := bSam) (a := e) 77 (argsL := [(.ref v), (.ref n), (.ref y)]) (rest := []) "com/example/meerkat/meerkat/metrics/Exposition" 0 b0_d77 (wI hw 65 rfl) (wI hw 66 rfl) (fun vm hz => Road.notFace_sib (args := #[]) (mv (s := D.s.setVm vm) hz (wI hw 68 rfl)) rfl) (wI hw 68 rfl) (wI hw 67 rfl) (wI hw 40 rfl) (wI hw 69 rfl) (by decide) Ee (cSam l Z a0 hw n0 hEW e q d1 v vd n nd y yd vs ns ls (ns ++ ((if ls = [] then ([] : List Int32) else [123] ++ ls ++ [125]) ++ ([32] ++ (vs ++ [10])))) N1 h_27 σ_28 Fe S1 hN1 hL1.1 Tv hv Tn hn Ty hy ne_e_q ne_e_d1 ne_v_q ne_v_d1 ne_vd_q ne_vd_d1 ne_n_q ne_n_d1 ne_nd_q ne_nd_d1 ne_y_q ne_y_d1 ne_yd_q ne_yd_d1 sd1 sq cp Hc hcp fm hfm Hf H0 H1 H2) (lenOf bSam_pd rfl) rfl rfl rfl (by decide) (by decide) (ce' := 25) (sl' := 335) rfl rfl (by decide) (by decide) ?_
  rintro _ h_34 σ_35 m_36 ⟨rfl, K_37, d2, N2, S2, hN2, gd2, sq2, sd2⟩
  replace Tn := Tn.imp (fun q => q.keep K_37 (ninS ne_n_q (ninS ne_n_d1 nin0)) (ninS ne_nd_q (ninS ne_nd_d1 nin0))) (fun q => q.keep K_37 (ninS ne_n_q (ninS ne_n_d1 nin0)) (ninS ne_nd_q (ninS ne_nd_d1 nin0)))
  replace Ty := Ty.imp (fun q => q.keep K_37 (ninS ne_y_q (ninS ne_y_d1 nin0)) (ninS ne_yd_q (ninS ne_yd_d1 nin0))) (fun q => q.keep K_37 (ninS ne_y_q (ninS ne_y_d1 nin0)) (ninS ne_yd_q (ninS ne_yd_d1 nin0)))
  replace Tv := Tv.imp (fun q => q.keep K_37 (ninS ne_v_q (ninS ne_v_d1 nin0)) (ninS ne_vd_q (ninS ne_vd_d1 nin0))) (fun q => q.keep K_37 (ninS ne_v_q (ninS ne_v_d1 nin0)) (ninS ne_vd_q (ninS ne_vd_d1 nin0)))
  replace Ee := Ee.keep K_37
  replace Fe := Fe.keep K_37 (ninS ne_e_q (ninS ne_e_d1 nin0))
  replace s_19 := m_36 _ s_19
  replace sq := m_36 _ sq
  replace sd1 := m_36 _ sd1
  have ne_e_d2 : e ≠ d2 := by rcases gd2 with gz | gz; rw [gz]; exact ne_e_d1; exact Nat.ne_of_lt (Nat.lt_of_lt_of_le lt_e_d2 gz)
  have ne_n_d2 : n ≠ d2 := by rcases gd2 with gz | gz; rw [gz]; exact ne_n_d1; exact Nat.ne_of_lt (Nat.lt_of_lt_of_le lt_n_d2 gz)
  have ne_nd_d2 : nd ≠ d2 := by rcases gd2 with gz | gz; rw [gz]; exact ne_nd_d1; exact Nat.ne_of_lt (Nat.lt_of_lt_of_le lt_nd_d2 gz)
  have ne_y_d2 : y ≠ d2 := by rcases gd2 with gz | gz; rw [gz]; exact ne_y_d1; exact Nat.ne_of_lt (Nat.lt_of_lt_of_le lt_y_d2 gz)
  have ne_yd_d2 : yd ≠ d2 := by rcases gd2 with gz | gz; rw [gz]; exact ne_yd_d1; exact Nat.ne_of_lt (Nat.lt_of_lt_of_le lt_yd_d2 gz)
  have ne_v_d2 : v ≠ d2 := by rcases gd2 with gz | gz; rw [gz]; exact ne_v_d1; exact Nat.ne_of_lt (Nat.lt_of_lt_of_le lt_v_d2 gz)
  have ne_vd_d2 : vd ≠ d2 := by rcases gd2 with gz | gz; rw [gz]; exact ne_vd_d1; exact Nat.ne_of_lt (Nat.lt_of_lt_of_le lt_vd_d2 gz)
  refine Road.aload 80 b0_d80 rfl ?_
  refine Road.callV (B' := bTxt) (a := e) 82 (argsL := []) (rest := []) "com/example/meerkat/meerkat/metrics/Exposition" 0 b0_d82 (wI hw 140 rfl) (wI hw 141 rfl) (fun vm hz => Road.notFace_sib (args := #[]) (mv (s := D.s.setVm vm) hz (wI hw 68 rfl)) rfl) (wI hw 143 rfl) (wI hw 142 rfl) (wI hw 40 rfl) (wI hw 144 rfl) (by decide) Ee (cTxt l Z a0 hw n0 hEW e q d2 ((ns ++ ((if ls = [] then ([] : List Int32) else [123] ++ ls ++ [125]) ++ ([32] ++ (vs ++ [10])))) ++ (vs ++ ((if ns = [] then ([] : List Int32) else [123] ++ ns ++ [125]) ++ ([32] ++ (ls ++ [10]))))) N2 h_34 σ_35 Fe S2 hN2 (by rw [List.length_append]; omega) (by rw [List.length_append]; omega) cp Hc hcp) (lenOf bTxt_pd rfl) rfl rfl rfl (by decide) (by decide) (ce' := 27) (sl' := 407) rfl rfl (by decide) (by decide) ?_
  rintro _ h_41 σ_42 m_43 ⟨t, td, rfl, K_44, T⟩
  replace Tn := Tn.imp (fun q => q.keep K_44 nin0 nin0) (fun q => q.keep K_44 nin0 nin0)
  replace Ty := Ty.imp (fun q => q.keep K_44 nin0 nin0) (fun q => q.keep K_44 nin0 nin0)
  replace Tv := Tv.imp (fun q => q.keep K_44 nin0 nin0) (fun q => q.keep K_44 nin0 nin0)
  replace Ee := Ee.keep K_44
  replace Fe := Fe.keep K_44 nin0
  replace s_19 := m_43 _ s_19
  replace sq := m_43 _ sq
  replace sd2 := m_43 _ sd2
  have Et : Exa Z h_41 t Road.SN := T.elim (fun q => q.1) (fun q => q.1)
  refine Road.astore 85 #[.val (.int p0), .val (.int p1), .val (.int p2), .val (.int p3), .val (.int k0), .val (.int k1), .val (.int k2), .val (.ref n), .val (.ref y), .val (.ref v), .val (.ref e), .val (.ref t), .unset, .unset] b0_d85 rfl ?_
  refine Road.aload 87 b0_d87 rfl ?_
  refine Road.aload 89 b0_d89 rfl ?_
  refine Road.aload 91 b0_d91 rfl ?_
  refine Road.callS (B' := bLen3) 93 (argsL := [(.ref n), (.ref y), (.ref v)]) (rest := []) 0 b0_d93 (wI hw 186 rfl) (wI hw 187 rfl) (wI hw 2 rfl) (wI hw 188 rfl) (by decide) (cLen3 l Z a0 hw n0 hEW n nd y yd v vd ns ls vs h_41 σ_42 Tn hn Ty hy Tv hv cp Hc hcp) (lenOf bLen3_pd rfl) rfl rfl rfl (by decide) (by decide) (ce' := 27) (sl' := 407) rfl rfl (by decide) (by decide) ?_
  rintro _ h_48 σ_49 m_50 ⟨rfl, rfl⟩
  refine Road.Go.weaken (σ' := σ_42) m_50 (Nat.le_refl _) (Nat.le_refl _) ?_
  refine Road.istore 96 #[.val (.int p0), .val (.int p1), .val (.int p2), .val (.int p3), .val (.int k0), .val (.int k1), .val (.int k2), .val (.ref n), .val (.ref y), .val (.ref v), .val (.ref e), .val (.ref t), .val (.int (Nat.toInt32 (ns ++ ((if ls = [] then ([] : List Int32) else [123] ++ ls ++ [125]) ++ ([32] ++ (vs ++ [10])))).length)), .unset] b0_d96 rfl ?_
  refine Road.aload 98 b0_d98 rfl ?_
  refine Road.aload 100 b0_d100 rfl ?_
  refine Road.aload 102 b0_d102 rfl ?_
  refine Road.callS (B' := bLen3) 104 (argsL := [(.ref v), (.ref n), (.ref y)]) (rest := []) 0 b0_d104 (wI hw 186 rfl) (wI hw 187 rfl) (wI hw 2 rfl) (wI hw 188 rfl) (by decide) (cLen3 l Z a0 hw n0 hEW v vd n nd y yd vs ns ls h_41 σ_42 Tv hv Tn hn Ty hy cp Hc hcp) (lenOf bLen3_pd rfl) rfl rfl rfl (by decide) (by decide) (ce' := 27) (sl' := 407) rfl rfl (by decide) (by decide) ?_
  rintro _ h_52 σ_53 m_54 ⟨rfl, rfl⟩
  refine Road.Go.weaken (σ' := σ_42) m_54 (Nat.le_refl _) (Nat.le_refl _) ?_
  refine Road.istore 107 #[.val (.int p0), .val (.int p1), .val (.int p2), .val (.int p3), .val (.int k0), .val (.int k1), .val (.int k2), .val (.ref n), .val (.ref y), .val (.ref v), .val (.ref e), .val (.ref t), .val (.int (Nat.toInt32 (ns ++ ((if ls = [] then ([] : List Int32) else [123] ++ ls ++ [125]) ++ ([32] ++ (vs ++ [10])))).length)), .val (.int (Nat.toInt32 (vs ++ ((if ns = [] then ([] : List Int32) else [123] ++ ns ++ [125]) ++ ([32] ++ (ls ++ [10])))).length))] b0_d107 rfl ?_
  refine Road.aload 109 b0_d109 rfl ?_
  refine Road.callV (B' := bLnX) (a := t) 111 (argsL := []) (rest := []) "java/lang/String" 0 b0_d111 (wI hw 189 rfl) (wI hw 81 rfl) (fun vm hz => Road.notFace_sib (args := #[]) (mv (s := D.s.setVm vm) hz (wI hw 83 rfl)) rfl) (wI hw 83 rfl) (wI hw 82 rfl) (wI hw 7 rfl) (wI hw 84 rfl) (by decide) Et (cLnX l Z a0 hw n0 hEW t td ((ns ++ ((if ls = [] then ([] : List Int32) else [123] ++ ls ++ [125]) ++ ([32] ++ (vs ++ [10])))) ++ (vs ++ ((if ns = [] then ([] : List Int32) else [123] ++ ns ++ [125]) ++ ([32] ++ (ls ++ [10]))))) h_41 σ_42 T cp Hc hcp) (lenOf bLnX_pd rfl) rfl rfl rfl (by decide) (by decide) (ce' := 27) (sl' := 407) rfl rfl (by decide) (by decide) ?_
  rintro _ h_56 σ_57 m_58 ⟨rfl, rfl⟩
  refine Road.Go.weaken (σ' := σ_42) m_58 (Nat.le_refl _) (Nat.le_refl _) ?_
  refine Road.iload 114 b0_d114 rfl ?_
  refine Road.iload 116 b0_d116 rfl ?_
  refine Road.iadd 118 b0_d118 ?_
  refine Road.icmp_eq 119 124 b0_d119 rfl (fun hc119 => ?_) (fun q => absurd q (by rw [Decidable.not_not, Road.add32n, ← List.length_append]))
  refine Road.aload 124 b0_d124 rfl ?_
  refine Road.iconst 126 (0 : Int32) b0_d126 rfl ?_
  refine Road.aload 127 b0_d127 rfl ?_
  refine Road.aload 129 b0_d129 rfl ?_
  refine Road.aload 131 b0_d131 rfl ?_
  refine Road.callS (B' := bCks) 133 (argsL := [(.ref t), (.int (Nat.toInt32 ([] : List Int32).length)), (.ref n), (.ref y), (.ref v)]) (rest := []) 0 b0_d133 (wI hw 191 rfl) (wI hw 192 rfl) (wI hw 2 rfl) (wI hw 193 rfl) (by decide) (cCks l Z a0 hw n0 hEW t td n nd y yd v vd ((ns ++ ((if ls = [] then ([] : List Int32) else [123] ++ ls ++ [125]) ++ ([32] ++ (vs ++ [10])))) ++ (vs ++ ((if ns = [] then ([] : List Int32) else [123] ++ ns ++ [125]) ++ ([32] ++ (ls ++ [10]))))) [] (vs ++ ((if ns = [] then ([] : List Int32) else [123] ++ ns ++ [125]) ++ ([32] ++ (ls ++ [10])))) ns ls vs h_41 σ_42 T Tn hn Ty hy Tv hv (by simp only [List.append_assoc, List.cons_append, List.nil_append]) cp Hc hcp fm hfm Hf H0 H1 H2) (lenOf bCks_pd rfl) rfl rfl rfl (by decide) (by decide) (ce' := 27) (sl' := 407) rfl rfl (by decide) (by decide) ?_
  rintro _ h_60 σ_61 m_62 ⟨rfl, rfl⟩
  refine Road.Go.weaken (σ' := σ_42) m_62 (Nat.le_refl _) (Nat.le_refl _) ?_
  refine Road.if_eq 136 159 b0_d136 rfl (fun q => absurd q (by decide)) (fun hc136 => ?_)
  refine Road.aload 139 b0_d139 rfl ?_
  refine Road.iload 141 b0_d141 rfl ?_
  refine Road.aload 143 b0_d143 rfl ?_
  refine Road.aload 145 b0_d145 rfl ?_
  refine Road.aload 147 b0_d147 rfl ?_
  refine Road.callS (B' := bCks) 149 (argsL := [(.ref t), (.int (Nat.toInt32 (ns ++ ((if ls = [] then ([] : List Int32) else [123] ++ ls ++ [125]) ++ ([32] ++ (vs ++ [10])))).length)), (.ref v), (.ref n), (.ref y)]) (rest := []) 0 b0_d149 (wI hw 191 rfl) (wI hw 192 rfl) (wI hw 2 rfl) (wI hw 193 rfl) (by decide) (cCks l Z a0 hw n0 hEW t td v vd n nd y yd ((ns ++ ((if ls = [] then ([] : List Int32) else [123] ++ ls ++ [125]) ++ ([32] ++ (vs ++ [10])))) ++ (vs ++ ((if ns = [] then ([] : List Int32) else [123] ++ ns ++ [125]) ++ ([32] ++ (ls ++ [10]))))) (ns ++ ((if ls = [] then ([] : List Int32) else [123] ++ ls ++ [125]) ++ ([32] ++ (vs ++ [10])))) [] vs ns ls h_41 σ_42 T Tv hv Tn hn Ty hy (by simp only [List.append_nil]) cp Hc hcp fm hfm Hf H0 H1 H2) (lenOf bCks_pd rfl) rfl rfl rfl (by decide) (by decide) (ce' := 27) (sl' := 407) rfl rfl (by decide) (by decide) ?_
  rintro _ h_64 σ_65 m_66 ⟨rfl, rfl⟩
  refine Road.Go.weaken (σ' := σ_42) m_66 (Nat.le_refl _) (Nat.le_refl _) ?_
  refine Road.if_eq 152 159 b0_d152 rfl (fun q => absurd q (by decide)) (fun hc152 => ?_)
  refine Road.iconst 155 (1 : Int32) b0_d155 rfl ?_
  refine Road.goto 156 160 b0_d156 rfl ?_
  exact Road.iret 160 1 b0_d160 (t := .boolean) rfl (by simp) rfl (by decide) (by decide) (fun σ' m => rfl)
set_option maxHeartbeats 40000000 in
theorem comes_1 {Post : Tables → Env → Array Value → State → Outcome → State → Prop} (hpost : ∀ tb e args s v u, (limb_1_1.after args s (.returned v) u = true ∧ limb_1_2.after args s (.returned v) u = true ∧ True) → ReturnedEndW s (.returned v) u (Jvm.fieldLocs frame_1_writes args s ++ Jvm.arrayLocs frame_1_arrays args s ++ Jvm.staticLocs frame_1_statics s) 48 1536 → Post tb e args s (.returned v) u) :
    ArmFor flags0 classFile x code maxLocals ret World_1 tables_1 room_1 Calls_1 rest_1 Pre_1 Post := by
  intro l hfl _ _ p e ha hc hk s m args below hf hA hF happ hP
  obtain ⟨hcalls, hrest, hpre⟩ := hP
  obtain ⟨-, -, -, hnamed, -, -, -, hat⟩ := (Spec.applies_iff hf).mp happ
  obtain ⟨hg, hn⟩ := and_e (Cond.before_iff.mp (show (Jvm.Cond.and given_1 narrow_1).before args s = true from hpre))
  obtain ⟨h1, hr1⟩ := and_e hg
  obtain ⟨g0, hr2⟩ := and_e hr1
  obtain ⟨g1, hr3⟩ := and_e hr2
  obtain ⟨g2, hr4⟩ := and_e hr3
  have g3 := hr4
  obtain ⟨w0, w1, w2, w3, rfl⟩ : ∃ w0 w1 w2 w3 : Value, args = #[w0, w1, w2, w3] := by
    have hs : args.size = 4 := by simpa [Cond.value, given_1] using h1
    obtain ⟨L⟩ := args
    match L, hs with
    | [w0, w1, w2, w3], _ => exact ⟨w0, w1, w2, w3, rfl⟩
  obtain ⟨p0, ev0⟩ := is_v g0
  obtain rfl : w0 = (.int p0) := Option.some.inj ev0
  obtain ⟨p1, ev1⟩ := is_v g1
  obtain rfl : w1 = (.int p1) := Option.some.inj ev1
  obtain ⟨p2, ev2⟩ := is_v g2
  obtain rfl : w2 = (.int p2) := Option.some.inj ev2
  obtain ⟨p3, ev3⟩ := is_v g3
  obtain rfl : w3 = (.int p3) := Option.some.inj ev3
  have hw := fun d (hd : d ∈ tables_1) => atoms_spec (ws := Jvm.Cond.code x code maxLocals ret :: tables_1) hat d (List.mem_cons_of_mem _ hd)
  obtain ⟨hsets, hown0⟩ := atoms_of _ (rest_1_c_eq ▸ (show rest_1_c.before _ s = true from hrest))
  have hfit : Fit s := fun {y c} hc i hi => by
    obtain ⟨ha, rfl⟩ := Array.getElem?_eq_some_iff.mp hc
    have q := List.all_eq_true.mp ((Array.all_eq_true_iff_forall_mem.mp hF) _ (Array.getElem_mem ha)) i (List.mem_range.mpr hi)
    simpa [Array.getElem?_eq_getElem hi] using q
  have hcw := hsets _ (List.mem_of_getElem? (i := 2) rfl)
  have n5 := not_v (Cond.before_iff.mp hcw)
  obtain ⟨cp, e10⟩ := is_v (Cond.before_iff.mp (hsets _ (List.mem_of_getElem? (i := 1) rfl)))
  have Hc : Sta s s.heap "java/lang/String" "COMPACT_STRINGS" "Z" (.int cp) := Sta.start e10 (Or.inl (hsets _ (List.mem_of_getElem? (i := 0) rfl)))
  have hcp : ¬ (cp = (0 : Int32)) := gotF (Cond.eq_ints e10 (Term.int_eval (0))) n5
  have hEW : EW s _ consts_1 := (EW.cons (wI hw 35 rfl) (by decide) EW.nil)
  have hCH : CHv s consts_1 s.vm s.heap := CHv.start hEW (fun q hq => hcalls.1 q hq) hcw (wI hw 24 rfl) (wI hw 6 rfl)
  obtain ⟨fm, efm, hfm⟩ := isR_v (Cond.before_iff.mp (hsets _ (List.mem_of_getElem? (i := 8) rfl)))
  have Hf : Sta s s.heap "jdk/internal/util/Preconditions" "SIOOBE_FORMATTER" "Ljava/util/function/BiFunction;" fm := Sta.start efm (Or.inl (hsets _ (List.mem_of_getElem? (i := 7) rfl)))
  have H0 := Sta.start (Road.eq_int_of (Cond.before_iff.mp (hsets _ (List.mem_of_getElem? (i := 12) rfl)))) (Or.inl (hsets _ (List.mem_of_getElem? (i := 11) rfl)))
  have H1 := Sta.start (Road.eq_int_of (Cond.before_iff.mp (hsets _ (List.mem_of_getElem? (i := 15) rfl)))) (Or.inl (hsets _ (List.mem_of_getElem? (i := 14) rfl)))
  have H2 := Sta.start (Road.eq_int_of (Cond.before_iff.mp (hsets _ (List.mem_of_getElem? (i := 18) rfl)))) (Or.inl (hsets _ (List.mem_of_getElem? (i := 17) rfl)))
  obtain ⟨n, o, z1, z2, z3, v, L, rfl, hQ, N, -, -, hE⟩ := law l s _ hw s.heap.size hEW p0 p1 p2 p3 s.heap (fun _ => False) cp Hc hcp fm hfm Hf H0 H1 H2 tables_1 p e ha hc hk s m _ below hf ((Spec.applies_iff_loose hf).mp happ).1 ⟨rfl, State.Warmed39.refl s, rfl, hCH, Old.start s, fun _ q => q.elim⟩ (fun q => nomatch q)
  have hQ : v = some (.int 1) := hQ
  subst hQ
  refine ⟨n, _, z1, z2, z3, hpost _ _ _ _ _ _ ⟨Cond.after_iff.mpr rfl, Cond.after_iff.mpr (eq_i res_at (Term.int_eval (1)) rfl), trivial⟩ ⟨hE.1, hE.2.1, hE.2.2.1, (hE.2.2.2.sift fun y hy => Or.inr (N y hy)).mono (by decide) (by decide)⟩⟩
theorem main_1_1 : Claimed_1_1 := comes_1 fun _ _ _ _ _ _ h hF => ⟨h.1, hF⟩
theorem main_1_2 : Claimed_1_2 := comes_1 fun _ _ _ _ _ _ h hF => ⟨h.2.1, hF⟩
end Jvm.Pilot.@@N@@
namespace Jvm.Pilot.@@N@@
open Jvm Jvm.ClassFile Sem Op Lib Jvm.Free Jvm.Stand Jvm.Pilot.@@N@@.Jvm.D
/-! MADE BY PROGRAM (witnessworld.py) out of the Statement's table words and the real class files: 26 classes; the members and pool entries that the words name. The judged class is class 1, her method 5. -/
namespace start1
open Jvm.ClassFile
def u (s : String) : CpInfo := .utf8 (stringToUtf16 s)
/-- a pool by its gaps: so many unusable entries, then the entry; so many at the end -/
def gap : Nat → List CpInfo → List CpInfo
  | 0, r => r
  | n + 1, r => .unusable :: gap n r
def poolList (es : List (Nat × CpInfo)) (last : Nat) : List CpInfo := es.foldr (fun e r => gap e.1 (e.2 :: r)) (gap last [])
def pool (es : List (Nat × CpInfo)) (last : Nat) : Array CpInfo := ⟨poolList es last⟩
def fileOf (pool : Array CpInfo) (this : Nat) (attrs : Array Attribute := #[]) (ms : Array MethodInfo := #[]) (fl : Nat := 33) (sup : Nat := 0) (ifs : Array Nat := #[]) (fds : Array FieldInfo := #[]) : ClassFile where
  minorVersion := 0
  majorVersion := 65
  constantPool := pool
  accessFlags := fl
  thisClass := this
  superClass := sup
  interfaces := ifs
  fields := fds
  methods := ms
  attributes := attrs
def plain (name : String) (sup : Option ClassId) : Class where
  name := name
  kind := .ordinary
  loader := none
  accessFlags := 33
  super := sup
  interfaces := #[]
  cf := none
  fields := #[]
  methods := #[]
  instanceTypes := #[]
  staticTypes := #[]
  resolved := #[]
  callSites := []
  init := .initialized
  statics := none
  mirror := none

def pool0 : Array CpInfo := pool [(5, u "<init>"), (0, u "()V"), (1, .class_ 10), (1, u "java/lang/Object"), (85, u "clone"), (0, u "()Ljava/lang/Object;")] 26

def k0c0 : Code := { maxStack := 0, maxLocals := 1, code := object_method_1_code, exceptionTable := #[], attributes := #[] }
def k0m0 : Method := { name := "<init>", desc := "()V", sig := { parameters := [], returnType := none }, accessFlags := 1, code := some k0c0 }
def k0m1 : Method := { name := "clone", desc := "()Ljava/lang/Object;", sig := { parameters := [], returnType := some (.object "java/lang/Object") }, accessFlags := 260, code := none }
/-- java/lang/Object -/
def k0 : Class := { plain "java/lang/Object" none with
  accessFlags := 33
  interfaces := #[]
  cf := some (fileOf pool0 8 #[] #[{ accessFlags := 1, nameIndex := 5, descriptorIndex := 6, attributes := #[] }, { accessFlags := 260, nameIndex := 96, descriptorIndex := 97, attributes := #[] }] 33 0 #[] #[])
  fields := #[]
  methods := #[k0m0, k0m1]
  instanceTypes := #[]
  staticTypes := #[]
  resolved := Array.replicate 124 none
  statics := none }

def pool1 : Array CpInfo := pool [(2, .class_ 4), (0, .nameAndType 5 6), (0, u "java/lang/Object"), (0, u "<init>"), (0, u "()V"), (0, .integer 65535), (0, .class_ 9), (0, u "java/lang/String"), (0, .methodref 8 11), (0, .nameAndType 5 12), (0, u "([C)V"), (0, .methodref 8 14), (0, .nameAndType 15 16), (0, u "length"), (0, u "()I"), (0, .methodref 8 18), (0, .nameAndType 19 20), (0, u "charAt"), (0, u "(I)C"), (0, .methodref 8 22), (0, .nameAndType 23 24), (0, u "isEmpty"), (0, u "()Z"), (0, .methodref 26 27), (0, .class_ 28), (0, .nameAndType 29 30), (0, u "com/example/meerkat/meerkat/metrics/ExpositionSamplePinLaw"), (0, u "eq"), (0, u "(Ljava/lang/String;ILjava/lang/String;)Z"), (0, .methodref 26 32), (0, .nameAndType 33 34), (0, u "mk"), (0, u "(II)Ljava/lang/String;"), (0, .class_ 36), (0, u "com/example/meerkat/meerkat/metrics/Exposition"), (0, .methodref 35 3), (0, .methodref 35 39), (0, .nameAndType 40 41), (0, u "sample"), (0, u "(Ljava/lang/String;Ljava/lang/String;Ljava/lang/String;)V"), (0, .methodref 35 43), (0, .nameAndType 44 45), (0, u "text"), (0, u "()Ljava/lang/String;"), (0, .methodref 26 47), (0, .nameAndType 48 49), (0, u "len"), (0, u "(Ljava/lang/String;Ljava/lang/String;Ljava/lang/String;)I"), (0, .methodref 26 51), (0, .nameAndType 52 53), (0, u "checkSample"), (0, u "(Ljava/lang/String;ILjava/lang/String;Ljava/lang/String;Ljava/lang/String;)Z"), (3, u "law"), (0, u "(IIII)Z")] 2

def k1m0 : Method := { name := "<init>", desc := "()V", sig := { parameters := [], returnType := none }, accessFlags := 2, code := none }
def k1c1 : Code := { maxStack := 6, maxLocals := 4, code := method_2_code, exceptionTable := #[], attributes := #[] }
def k1m1 : Method := { name := "mk", desc := "(II)Ljava/lang/String;", sig := { parameters := [.int, .int], returnType := some (.object "java/lang/String") }, accessFlags := 10, code := some k1c1 }
def k1c2 : Code := { maxStack := 3, maxLocals := 3, code := method_3_code, exceptionTable := #[], attributes := #[] }
def k1m2 : Method := { name := "eq", desc := "(Ljava/lang/String;ILjava/lang/String;)Z", sig := { parameters := [(.object "java/lang/String"), .int, (.object "java/lang/String")], returnType := some .boolean }, accessFlags := 10, code := some k1c2 }
def k1c3 : Code := { maxStack := 3, maxLocals := 3, code := method_4_code, exceptionTable := #[], attributes := #[] }
def k1m3 : Method := { name := "len", desc := "(Ljava/lang/String;Ljava/lang/String;Ljava/lang/String;)I", sig := { parameters := [(.object "java/lang/String"), (.object "java/lang/String"), (.object "java/lang/String")], returnType := some .int }, accessFlags := 10, code := some k1c3 }
def k1c4 : Code := { maxStack := 3, maxLocals := 6, code := method_5_code, exceptionTable := #[], attributes := #[] }
def k1m4 : Method := { name := "checkSample", desc := "(Ljava/lang/String;ILjava/lang/String;Ljava/lang/String;Ljava/lang/String;)Z", sig := { parameters := [(.object "java/lang/String"), .int, (.object "java/lang/String"), (.object "java/lang/String"), (.object "java/lang/String")], returnType := some .boolean }, accessFlags := 10, code := some k1c4 }
def k1c5 : Code := { maxStack := 5, maxLocals := 14, code := code, exceptionTable := #[], attributes := #[] }
def k1m5 : Method := { name := "law", desc := "(IIII)Z", sig := { parameters := [.int, .int, .int, .int], returnType := some .boolean }, accessFlags := 9, code := some k1c5 }
/-- com/example/meerkat/meerkat/metrics/ExpositionSamplePinLaw -/
def k1 : Class := { plain "com/example/meerkat/meerkat/metrics/ExpositionSamplePinLaw" (some 0) with
  accessFlags := 49
  interfaces := #[]
  cf := some (fileOf pool1 26 #[] #[{ accessFlags := 2, nameIndex := 5, descriptorIndex := 6, attributes := #[] }, { accessFlags := 10, nameIndex := 33, descriptorIndex := 34, attributes := #[] }, { accessFlags := 10, nameIndex := 29, descriptorIndex := 30, attributes := #[] }, { accessFlags := 10, nameIndex := 48, descriptorIndex := 49, attributes := #[] }, { accessFlags := 10, nameIndex := 52, descriptorIndex := 53, attributes := #[] }, { accessFlags := 9, nameIndex := 57, descriptorIndex := 58, attributes := #[] }] 49 2 #[] #[])
  fields := #[]
  methods := #[k1m0, k1m1, k1m2, k1m3, k1m4, k1m5]
  instanceTypes := #[]
  staticTypes := #[]
  resolved := Array.replicate 61 none
  statics := none }

def pool2 : Array CpInfo := pool [(1, .class_ 2), (0, u "java/io/Serializable"), (0, .class_ 4), (0, u "java/lang/Object")] 2

/-- java/io/Serializable -/
def k2 : Class := { plain "java/io/Serializable" (some 0) with
  accessFlags := 1537
  interfaces := #[]
  cf := some (fileOf pool2 1 #[] #[] 1537 3 #[] #[])
  fields := #[]
  methods := #[]
  instanceTypes := #[]
  staticTypes := #[]
  resolved := Array.replicate 7 none
  statics := none }

def pool3 : Array CpInfo := pool [(1, .class_ 2), (0, u "java/lang/Comparable"), (0, .class_ 4), (0, u "java/lang/Object")] 7

/-- java/lang/Comparable -/
def k3 : Class := { plain "java/lang/Comparable" (some 0) with
  accessFlags := 1537
  interfaces := #[]
  cf := some (fileOf pool3 1 #[] #[] 1537 3 #[] #[])
  fields := #[]
  methods := #[]
  instanceTypes := #[]
  staticTypes := #[]
  resolved := Array.replicate 12 none
  statics := none }

def pool4 : Array CpInfo := pool [(2, .class_ 4), (1, u "java/lang/CharSequence"), (42, .class_ 48), (0, u "java/lang/CharSequence$1CodePointIterator"), (10, .class_ 60), (0, u "java/lang/CharSequence$1CharIterator"), (5, .class_ 67), (0, u "java/lang/Object")] 63

/-- java/lang/CharSequence -/
def k4 : Class := { plain "java/lang/CharSequence" (some 0) with
  accessFlags := 1537
  interfaces := #[]
  cf := some (fileOf pool4 2 #[.nestMembers #[47, 59]] #[] 1537 66 #[] #[])
  fields := #[]
  methods := #[]
  instanceTypes := #[]
  staticTypes := #[]
  resolved := Array.replicate 131 none
  statics := none }

def pool5 : Array CpInfo := pool [(1, .class_ 2), (0, u "java/lang/constant/Constable"), (0, .class_ 4), (0, u "java/lang/Object")] 6

/-- java/lang/constant/Constable -/
def k5 : Class := { plain "java/lang/constant/Constable" (some 0) with
  accessFlags := 1537
  interfaces := #[]
  cf := some (fileOf pool5 1 #[] #[] 1537 3 #[] #[])
  fields := #[]
  methods := #[]
  instanceTypes := #[]
  staticTypes := #[]
  resolved := Array.replicate 11 none
  statics := none }

def pool6 : Array CpInfo := pool [(1, .class_ 2), (0, u "java/lang/constant/ConstantDesc"), (0, .class_ 4), (0, u "java/lang/Object")] 32

/-- java/lang/constant/ConstantDesc -/
def k6 : Class := { plain "java/lang/constant/ConstantDesc" (some 0) with
  accessFlags := 1537
  interfaces := #[]
  cf := some (fileOf pool6 1 #[] #[] 1537 3 #[] #[])
  fields := #[]
  methods := #[]
  instanceTypes := #[]
  staticTypes := #[]
  resolved := Array.replicate 37 none
  statics := none }

def pool7 : Array CpInfo := pool [(1, .methodref 2 3), (0, .class_ 4), (0, .nameAndType 5 6), (0, u "java/lang/Object"), (0, u "<init>"), (0, u "()V"), (0, .string 8), (0, u ""), (0, .fieldref 10 11), (0, .class_ 12), (0, .nameAndType 13 14), (0, u "java/lang/String"), (0, u "value"), (0, u "[B"), (0, .fieldref 10 16), (0, .nameAndType 17 18), (0, u "coder"), (0, u "B"), (2, u "hash"), (0, u "I"), (2, u "hashIsZero"), (0, u "Z"), (0, .methodref 10 28), (0, .nameAndType 5 29), (0, u "([CIILjava/lang/Void;)V"), (6, u "checkBoundsOffCount"), (0, u "(III)I"), (0, .fieldref 10 39), (0, .nameAndType 40 26), (0, u "COMPACT_STRINGS"), (1, .class_ 44), (1, u "java/lang/StringUTF16"), (0, u "compress"), (1, .methodref 42 48), (0, .nameAndType 49 50), (0, u "coderFromArrayLen"), (0, u "([BI)B"), (3, .methodref 55 56), (0, .class_ 57), (0, .nameAndType 58 59), (0, u "java/util/Arrays"), (0, u "copyOfRange"), (0, u "([BII)[B"), (46, .methodref 107 108), (0, .class_ 109), (0, .nameAndType 110 111), (0, u "java/lang/StringLatin1"), (0, u "inflate"), (0, u "([BI[BII)V"), (30, u "()Z"), (34, .methodref 42 178), (0, .nameAndType 45 179), (0, u "([CII)[B"), (13, .class_ 195), (1, u "java/lang/System"), (16, .methodref 193 213), (0, .nameAndType 214 215), (0, u "arraycopy"), (0, u "(Ljava/lang/Object;ILjava/lang/Object;II)V"), (118, u "()I"), (0, .methodref 10 336), (0, .nameAndType 17 337), (0, u "()B"), (2, u "()[B"), (22, u "([BI)C"), (27, u "(II)V"), (35, u "(I)C"), (61, .methodref 10 490), (0, .nameAndType 5 491), (0, u "(Ljava/lang/AbstractStringBuilder;Ljava/lang/Void;)V"), (0, .methodref 10 493), (0, .nameAndType 494 142), (0, u "isLatin1"), (0, .methodref 107 496), (0, .nameAndType 497 363), (0, u "charAt"), (0, .methodref 42 496), (2, u "checkIndex"), (4, .nameAndType 507 334), (0, u "length"), (24, u "getBytes"), (16, .methodref 550 506), (0, .class_ 551), (0, u "java/lang/AbstractStringBuilder"), (0, .methodref 550 553), (0, .nameAndType 554 340), (0, u "getValue"), (20, .class_ 576), (0, u "java/lang/CharSequence"), (22, u "CASE_INSENSITIVE_ORDER"), (0, u "Ljava/util/Comparator;"), (91, u "isEmpty"), (128, u "([BIB)V"), (188, u "([C)V"), (36, .methodref 550 493), (0, .fieldref 550 1049), (0, .nameAndType 1050 26), (0, u "maybeLatin1"), (2, .fieldref 1054 1055), (0, .class_ 1056), (0, .nameAndType 1057 1058), (0, u "jdk/internal/util/Preconditions"), (0, u "SIOOBE_FORMATTER"), (0, u "Ljava/util/function/BiFunction;"), (0, .methodref 1054 1060), (0, .nameAndType 501 1061), (0, u "(IILjava/util/function/BiFunction;)I"), (2, u "(IIILjava/util/function/BiFunction;)I"), (0, .methodref 1054 1066), (0, .nameAndType 1067 1064), (0, u "checkFromIndexSize"), (33, u "serialPersistentFields"), (0, u "[Ljava/io/ObjectStreamField;"), (0, .class_ 1104), (0, u "java/lang/String$CaseInsensitiveComparator"), (1, .class_ 1107), (0, u "java/io/Serializable"), (0, .class_ 1109), (0, u "java/lang/Comparable"), (0, .class_ 1111), (0, u "java/lang/constant/Constable"), (0, .class_ 1113), (0, u "java/lang/constant/ConstantDesc"), (2, u "serialVersionUID"), (0, u "J"), (3, u "REPL"), (0, u "C"), (2, u "LATIN1"), (1, u "UTF16"), (105, u "(Ljava/lang/StringBuilder;)V")] 217

def k7m0 : Method := { name := "<init>", desc := "()V", sig := { parameters := [], returnType := none }, accessFlags := 1, code := none }
def k7c1 : Code := { maxStack := 5, maxLocals := 2, code := jdk_42_method_3_code, exceptionTable := #[], attributes := #[] }
def k7m1 : Method := { name := "<init>", desc := "([C)V", sig := { parameters := [(.array .char)], returnType := none }, accessFlags := 1, code := some k7c1 }
def k7c2 : Code := { maxStack := 3, maxLocals := 2, code := jdk_42_method_53_code, exceptionTable := #[], attributes := #[] }
def k7m2 : Method := { name := "<init>", desc := "(Ljava/lang/StringBuilder;)V", sig := { parameters := [(.object "java/lang/StringBuilder")], returnType := none }, accessFlags := 1, code := some k7c2 }
def k7c3 : Code := { maxStack := 2, maxLocals := 1, code := jdk_42_method_54_code, exceptionTable := #[], attributes := #[] }
def k7m3 : Method := { name := "length", desc := "()I", sig := { parameters := [], returnType := some .int }, accessFlags := 1, code := some k7c3 }
def k7c4 : Code := { maxStack := 1, maxLocals := 1, code := jdk_42_method_55_code, exceptionTable := #[], attributes := #[] }
def k7m4 : Method := { name := "isEmpty", desc := "()Z", sig := { parameters := [], returnType := some .boolean }, accessFlags := 1, code := some k7c4 }
def k7c5 : Code := { maxStack := 2, maxLocals := 2, code := jdk_42_method_56_code, exceptionTable := #[], attributes := #[] }
def k7m5 : Method := { name := "charAt", desc := "(I)C", sig := { parameters := [.int], returnType := some .char }, accessFlags := 1, code := some k7c5 }
def k7c6 : Code := { maxStack := 5, maxLocals := 4, code := jdk_42_method_147_code, exceptionTable := #[], attributes := #[] }
def k7m6 : Method := { name := "getBytes", desc := "([BIB)V", sig := { parameters := [(.array .byte), .int, .byte], returnType := none }, accessFlags := 0, code := some k7c6 }
def k7c7 : Code := { maxStack := 4, maxLocals := 6, code := jdk_42_method_149_code, exceptionTable := #[], attributes := #[] }
def k7m7 : Method := { name := "<init>", desc := "([CIILjava/lang/Void;)V", sig := { parameters := [(.array .char), .int, .int, (.object "java/lang/Void")], returnType := none }, accessFlags := 2, code := some k7c7 }
def k7c8 : Code := { maxStack := 5, maxLocals := 5, code := jdk_42_method_150_code, exceptionTable := #[], attributes := #[] }
def k7m8 : Method := { name := "<init>", desc := "(Ljava/lang/AbstractStringBuilder;Ljava/lang/Void;)V", sig := { parameters := [(.object "java/lang/AbstractStringBuilder"), (.object "java/lang/Void")], returnType := none }, accessFlags := 0, code := some k7c8 }
def k7c9 : Code := { maxStack := 1, maxLocals := 1, code := jdk_42_method_152_code, exceptionTable := #[], attributes := #[] }
def k7m9 : Method := { name := "coder", desc := "()B", sig := { parameters := [], returnType := some .byte }, accessFlags := 0, code := some k7c9 }
def k7c10 : Code := { maxStack := 1, maxLocals := 1, code := jdk_42_method_154_code, exceptionTable := #[], attributes := #[] }
def k7m10 : Method := { name := "isLatin1", desc := "()Z", sig := { parameters := [], returnType := some .boolean }, accessFlags := 0, code := some k7c10 }
def k7c11 : Code := { maxStack := 3, maxLocals := 2, code := jdk_42_method_155_code, exceptionTable := #[], attributes := #[] }
def k7m11 : Method := { name := "checkIndex", desc := "(II)V", sig := { parameters := [.int, .int], returnType := none }, accessFlags := 8, code := some k7c11 }
def k7c12 : Code := { maxStack := 4, maxLocals := 3, code := jdk_42_method_157_code, exceptionTable := #[], attributes := #[] }
def k7m12 : Method := { name := "checkBoundsOffCount", desc := "(III)I", sig := { parameters := [.int, .int, .int], returnType := some .int }, accessFlags := 8, code := some k7c12 }
/-- java/lang/String -/
def k7 : Class := { plain "java/lang/String" (some 0) with
  accessFlags := 49
  interfaces := #[2, 3, 4, 5, 6]
  cf := some (fileOf pool7 10 #[.nestMembers #[1103]] #[{ accessFlags := 1, nameIndex := 5, descriptorIndex := 6, attributes := #[] }, { accessFlags := 1, nameIndex := 5, descriptorIndex := 1010, attributes := #[] }, { accessFlags := 1, nameIndex := 5, descriptorIndex := 1233, attributes := #[] }, { accessFlags := 1, nameIndex := 507, descriptorIndex := 334, attributes := #[] }, { accessFlags := 1, nameIndex := 692, descriptorIndex := 142, attributes := #[] }, { accessFlags := 1, nameIndex := 497, descriptorIndex := 427, attributes := #[] }, { accessFlags := 0, nameIndex := 532, descriptorIndex := 821, attributes := #[] }, { accessFlags := 2, nameIndex := 5, descriptorIndex := 29, attributes := #[] }, { accessFlags := 0, nameIndex := 5, descriptorIndex := 491, attributes := #[] }, { accessFlags := 0, nameIndex := 17, descriptorIndex := 337, attributes := #[] }, { accessFlags := 0, nameIndex := 494, descriptorIndex := 142, attributes := #[] }, { accessFlags := 8, nameIndex := 501, descriptorIndex := 391, attributes := #[] }, { accessFlags := 8, nameIndex := 36, descriptorIndex := 37, attributes := #[] }] 49 2 #[1106, 1108, 575, 1110, 1112] #[{ accessFlags := 18, nameIndex := 13, descriptorIndex := 14, attributes := #[] }, { accessFlags := 18, nameIndex := 17, descriptorIndex := 18, attributes := #[] }, { accessFlags := 2, nameIndex := 21, descriptorIndex := 22, attributes := #[] }, { accessFlags := 2, nameIndex := 25, descriptorIndex := 26, attributes := #[] }, { accessFlags := 26, nameIndex := 1116, descriptorIndex := 1117, attributes := #[] }, { accessFlags := 24, nameIndex := 40, descriptorIndex := 26, attributes := #[] }, { accessFlags := 26, nameIndex := 1101, descriptorIndex := 1102, attributes := #[] }, { accessFlags := 26, nameIndex := 1121, descriptorIndex := 1122, attributes := #[] }, { accessFlags := 25, nameIndex := 599, descriptorIndex := 600, attributes := #[] }, { accessFlags := 24, nameIndex := 1125, descriptorIndex := 18, attributes := #[] }, { accessFlags := 24, nameIndex := 1127, descriptorIndex := 18, attributes := #[] }])
  fields := #[{ name := "value", type := (.array .byte), accessFlags := 18, slot := 0, constantValue := 0 }, { name := "coder", type := .byte, accessFlags := 18, slot := 1, constantValue := 0 }, { name := "hash", type := .int, accessFlags := 2, slot := 2, constantValue := 0 }, { name := "hashIsZero", type := .boolean, accessFlags := 2, slot := 3, constantValue := 0 }, { name := "serialVersionUID", type := .long, accessFlags := 26, slot := 0, constantValue := 0 }, { name := "COMPACT_STRINGS", type := .boolean, accessFlags := 24, slot := 1, constantValue := 0 }, { name := "serialPersistentFields", type := (.array (.object "java/io/ObjectStreamField")), accessFlags := 26, slot := 2, constantValue := 0 }, { name := "REPL", type := .char, accessFlags := 26, slot := 3, constantValue := 0 }, { name := "CASE_INSENSITIVE_ORDER", type := (.object "java/util/Comparator"), accessFlags := 25, slot := 4, constantValue := 0 }, { name := "LATIN1", type := .byte, accessFlags := 24, slot := 5, constantValue := 0 }, { name := "UTF16", type := .byte, accessFlags := 24, slot := 6, constantValue := 0 }]
  methods := #[k7m0, k7m1, k7m2, k7m3, k7m4, k7m5, k7m6, k7m7, k7m8, k7m9, k7m10, k7m11, k7m12]
  instanceTypes := #[(.array .byte), .byte, .int, .boolean]
  staticTypes := #[.long, .boolean, (.array (.object "java/io/ObjectStreamField")), .char, (.object "java/util/Comparator"), .byte, .byte]
  resolved := Array.replicate 1451 none
  statics := some 0 }

def pool8 : Array CpInfo := pool [(3, .class_ 4), (0, u "java/lang/String"), (1, .class_ 8), (1, u "java/lang/Object"), (0, u "<init>"), (0, u "()V"), (0, .methodref 12 13), (0, .class_ 14), (0, .nameAndType 15 16), (0, u "java/lang/StringUTF16"), (0, u "newBytesLength"), (0, u "(I)I"), (3, .integer 1073741823), (23, .fieldref 12 45), (0, .nameAndType 46 47), (0, u "$assertionsDisabled"), (0, u "Z"), (0, .methodref 12 49), (0, .nameAndType 50 51), (0, u "length"), (0, u "([B)I"), (7, .fieldref 12 60), (0, .nameAndType 61 62), (0, u "HI_BYTE_SHIFT"), (0, u "I"), (0, .fieldref 12 64), (0, .nameAndType 65 62), (0, u "LO_BYTE_SHIFT"), (1, .methodref 12 68), (0, .nameAndType 69 70), (0, u "checkIndex"), (0, u "(I[B)V"), (0, .methodref 12 72), (0, .nameAndType 73 74), (0, u "getChar"), (0, u "([BI)C"), (24, u "(II[B)V"), (7, .methodref 12 108), (0, .nameAndType 109 110), (0, u "newBytesFor"), (0, u "(I)[B"), (0, .methodref 12 112), (0, .nameAndType 113 114), (0, u "putChar"), (0, u "([BII)V"), (0, .methodref 12 116), (0, .nameAndType 117 118), (0, u "compress"), (0, u "([CI[BII)I"), (0, .methodref 12 120), (0, .nameAndType 121 122), (0, u "toBytes"), (0, u "([CII)[B"), (17, u "inflate"), (0, u "([BI[BII)V"), (31, .methodref 12 174), (0, .nameAndType 175 99), (0, u "checkBoundsOffCount"), (85, u "coderFromArrayLen"), (0, u "([BI)B"), (18, u "(III)I"), (87, .class_ 371), (1, u "java/lang/StringUTF16$LinesSpliterator"), (20, u "charAt"), (21, .methodref 3 415), (0, .nameAndType 69 416), (0, u "(II)V"), (2, .methodref 3 420), (0, .nameAndType 175 281), (9, u "MAX_LENGTH"), (155, u "putCharSB"), (40, .class_ 628), (0, u "java/lang/StringUTF16$CodePointsSpliterator"), (0, .class_ 630), (0, u "java/lang/StringUTF16$CharsSpliterator")] 4

def k8m0 : Method := { name := "<init>", desc := "()V", sig := { parameters := [], returnType := none }, accessFlags := 0, code := none }
def k8c1 : Code := { maxStack := 1, maxLocals := 1, code := jdk_52_method_2_code, exceptionTable := #[], attributes := #[] }
def k8m1 : Method := { name := "newBytesFor", desc := "(I)[B", sig := { parameters := [.int], returnType := some (.array .byte) }, accessFlags := 9, code := some k8c1 }
def k8c2 : Code := { maxStack := 4, maxLocals := 1, code := jdk_52_method_3_code, exceptionTable := #[], attributes := #[] }
def k8m2 : Method := { name := "newBytesLength", desc := "(I)I", sig := { parameters := [.int], returnType := some .int }, accessFlags := 9, code := some k8c2 }
def k8c3 : Code := { maxStack := 4, maxLocals := 3, code := jdk_52_method_4_code, exceptionTable := #[], attributes := #[] }
def k8m3 : Method := { name := "putChar", desc := "([BII)V", sig := { parameters := [(.array .byte), .int, .int], returnType := none }, accessFlags := 8, code := some k8c3 }
def k8c4 : Code := { maxStack := 3, maxLocals := 2, code := jdk_52_method_5_code, exceptionTable := #[], attributes := #[] }
def k8m4 : Method := { name := "getChar", desc := "([BI)C", sig := { parameters := [(.array .byte), .int], returnType := some .char }, accessFlags := 8, code := some k8c4 }
def k8c5 : Code := { maxStack := 2, maxLocals := 1, code := jdk_52_method_6_code, exceptionTable := #[], attributes := #[] }
def k8m5 : Method := { name := "length", desc := "([B)I", sig := { parameters := [(.array .byte)], returnType := some .int }, accessFlags := 9, code := some k8c5 }
def k8c6 : Code := { maxStack := 4, maxLocals := 5, code := jdk_52_method_14_code, exceptionTable := #[], attributes := #[] }
def k8m6 : Method := { name := "toBytes", desc := "([CII)[B", sig := { parameters := [(.array .char), .int, .int], returnType := some (.array .byte) }, accessFlags := 9, code := some k8c6 }
def k8c7 : Code := { maxStack := 2, maxLocals := 2, code := jdk_52_method_15_code, exceptionTable := #[], attributes := #[] }
def k8m7 : Method := { name := "coderFromArrayLen", desc := "([BI)B", sig := { parameters := [(.array .byte), .int], returnType := some .byte }, accessFlags := 8, code := some k8c7 }
def k8c8 : Code := { maxStack := 5, maxLocals := 6, code := jdk_52_method_16_code, exceptionTable := #[], attributes := #[] }
def k8m8 : Method := { name := "compress", desc := "([CII)[B", sig := { parameters := [(.array .char), .int, .int], returnType := some (.array .byte) }, accessFlags := 9, code := some k8c8 }
def k8c9 : Code := { maxStack := 3, maxLocals := 7, code := jdk_52_method_21_code, exceptionTable := #[], attributes := #[] }
def k8m9 : Method := { name := "compress", desc := "([CI[BII)I", sig := { parameters := [(.array .char), .int, (.array .byte), .int, .int], returnType := some .int }, accessFlags := 9, code := some k8c9 }
def k8c10 : Code := { maxStack := 3, maxLocals := 3, code := jdk_52_method_71_code, exceptionTable := #[], attributes := #[] }
def k8m10 : Method := { name := "putCharSB", desc := "([BII)V", sig := { parameters := [(.array .byte), .int, .int], returnType := none }, accessFlags := 9, code := some k8c10 }
def k8c11 : Code := { maxStack := 2, maxLocals := 2, code := jdk_52_method_83_code, exceptionTable := #[], attributes := #[] }
def k8m11 : Method := { name := "charAt", desc := "([BI)C", sig := { parameters := [(.array .byte), .int], returnType := some .char }, accessFlags := 9, code := some k8c11 }
def k8c12 : Code := { maxStack := 4, maxLocals := 6, code := jdk_52_method_86_code, exceptionTable := #[], attributes := #[] }
def k8m12 : Method := { name := "inflate", desc := "([BI[BII)V", sig := { parameters := [(.array .byte), .int, (.array .byte), .int, .int], returnType := none }, accessFlags := 9, code := some k8c12 }
def k8c13 : Code := { maxStack := 2, maxLocals := 2, code := jdk_52_method_91_code, exceptionTable := #[], attributes := #[] }
def k8m13 : Method := { name := "checkIndex", desc := "(I[B)V", sig := { parameters := [.int, (.array .byte)], returnType := none }, accessFlags := 9, code := some k8c13 }
def k8c14 : Code := { maxStack := 3, maxLocals := 3, code := jdk_52_method_94_code, exceptionTable := #[], attributes := #[] }
def k8m14 : Method := { name := "checkBoundsOffCount", desc := "(II[B)V", sig := { parameters := [.int, .int, (.array .byte)], returnType := none }, accessFlags := 9, code := some k8c14 }
/-- java/lang/StringUTF16 -/
def k8 : Class := { plain "java/lang/StringUTF16" (some 0) with
  accessFlags := 48
  interfaces := #[]
  cf := some (fileOf pool8 12 #[.nestMembers #[627, 629, 369]] #[{ accessFlags := 0, nameIndex := 9, descriptorIndex := 10, attributes := #[] }, { accessFlags := 9, nameIndex := 109, descriptorIndex := 110, attributes := #[] }, { accessFlags := 9, nameIndex := 15, descriptorIndex := 16, attributes := #[] }, { accessFlags := 8, nameIndex := 113, descriptorIndex := 114, attributes := #[] }, { accessFlags := 8, nameIndex := 73, descriptorIndex := 74, attributes := #[] }, { accessFlags := 9, nameIndex := 50, descriptorIndex := 51, attributes := #[] }, { accessFlags := 9, nameIndex := 121, descriptorIndex := 122, attributes := #[] }, { accessFlags := 8, nameIndex := 261, descriptorIndex := 262, attributes := #[] }, { accessFlags := 9, nameIndex := 117, descriptorIndex := 122, attributes := #[] }, { accessFlags := 9, nameIndex := 117, descriptorIndex := 118, attributes := #[] }, { accessFlags := 9, nameIndex := 586, descriptorIndex := 114, attributes := #[] }, { accessFlags := 9, nameIndex := 392, descriptorIndex := 74, attributes := #[] }, { accessFlags := 9, nameIndex := 140, descriptorIndex := 141, attributes := #[] }, { accessFlags := 9, nameIndex := 69, descriptorIndex := 70, attributes := #[] }, { accessFlags := 9, nameIndex := 175, descriptorIndex := 99, attributes := #[] }] 48 6 #[] #[{ accessFlags := 26, nameIndex := 61, descriptorIndex := 62, attributes := #[] }, { accessFlags := 26, nameIndex := 65, descriptorIndex := 62, attributes := #[] }, { accessFlags := 24, nameIndex := 430, descriptorIndex := 62, attributes := #[] }, { accessFlags := 4120, nameIndex := 46, descriptorIndex := 47, attributes := #[] }])
  fields := #[{ name := "HI_BYTE_SHIFT", type := .int, accessFlags := 26, slot := 0, constantValue := 0 }, { name := "LO_BYTE_SHIFT", type := .int, accessFlags := 26, slot := 1, constantValue := 0 }, { name := "MAX_LENGTH", type := .int, accessFlags := 24, slot := 2, constantValue := 0 }, { name := "$assertionsDisabled", type := .boolean, accessFlags := 4120, slot := 3, constantValue := 0 }]
  methods := #[k8m0, k8m1, k8m2, k8m3, k8m4, k8m5, k8m6, k8m7, k8m8, k8m9, k8m10, k8m11, k8m12, k8m13, k8m14]
  instanceTypes := #[]
  staticTypes := #[.int, .int, .int, .boolean]
  resolved := Array.replicate 635 none
  statics := some 1 }

def pool9 : Array CpInfo := pool [(1, .methodref 2 3), (0, .class_ 4), (0, .nameAndType 5 6), (0, u "java/lang/Object"), (0, u "<init>"), (0, u "()V"), (0, .class_ 8), (0, u "java/lang/StringBuilder"), (0, .methodref 7 3), (0, .fieldref 11 12), (0, .class_ 13), (0, .nameAndType 14 15), (0, u "com/example/meerkat/meerkat/metrics/Exposition"), (0, u "text"), (0, u "Ljava/lang/StringBuilder;"), (2, .methodref 7 19), (0, .nameAndType 20 21), (0, u "append"), (0, u "(Ljava/lang/String;)Ljava/lang/StringBuilder;"), (0, .methodref 7 23), (0, .nameAndType 20 24), (0, u "(C)Ljava/lang/StringBuilder;"), (6, .methodref 32 33), (0, .class_ 34), (0, .nameAndType 35 36), (0, u "java/lang/String"), (0, u "isEmpty"), (0, u "()Z"), (0, .methodref 7 38), (0, .nameAndType 39 40), (0, u "toString"), (0, u "()Ljava/lang/String;"), (60, u "(Ljava/lang/String;Ljava/lang/String;Ljava/lang/String;)V"), (0, u "sample")] 26

def k9c0 : Code := { maxStack := 3, maxLocals := 1, code := prog_10_method_1_code, exceptionTable := #[], attributes := #[] }
def k9m0 : Method := { name := "<init>", desc := "()V", sig := { parameters := [], returnType := none }, accessFlags := 0, code := some k9c0 }
def k9c1 : Code := { maxStack := 2, maxLocals := 4, code := prog_10_method_3_code, exceptionTable := #[], attributes := #[] }
def k9m1 : Method := { name := "sample", desc := "(Ljava/lang/String;Ljava/lang/String;Ljava/lang/String;)V", sig := { parameters := [(.object "java/lang/String"), (.object "java/lang/String"), (.object "java/lang/String")], returnType := none }, accessFlags := 0, code := some k9c1 }
def k9c2 : Code := { maxStack := 1, maxLocals := 1, code := prog_10_method_4_code, exceptionTable := #[], attributes := #[] }
def k9m2 : Method := { name := "text", desc := "()Ljava/lang/String;", sig := { parameters := [], returnType := some (.object "java/lang/String") }, accessFlags := 0, code := some k9c2 }
/-- com/example/meerkat/meerkat/metrics/Exposition -/
def k9 : Class := { plain "com/example/meerkat/meerkat/metrics/Exposition" (some 0) with
  accessFlags := 48
  interfaces := #[]
  cf := some (fileOf pool9 11 #[] #[{ accessFlags := 0, nameIndex := 5, descriptorIndex := 6, attributes := #[] }, { accessFlags := 0, nameIndex := 102, descriptorIndex := 101, attributes := #[] }, { accessFlags := 0, nameIndex := 14, descriptorIndex := 40, attributes := #[] }] 48 2 #[] #[{ accessFlags := 18, nameIndex := 14, descriptorIndex := 15, attributes := #[] }])
  fields := #[{ name := "text", type := (.object "java/lang/StringBuilder"), accessFlags := 18, slot := 0, constantValue := 0 }]
  methods := #[k9m0, k9m1, k9m2]
  instanceTypes := #[(.object "java/lang/StringBuilder")]
  staticTypes := #[]
  resolved := Array.replicate 129 none
  statics := none }

def pool10 : Array CpInfo := pool [(1, .class_ 2), (0, u "java/lang/Appendable"), (0, .class_ 4), (0, u "java/lang/Object")] 9

/-- java/lang/Appendable -/
def k10 : Class := { plain "java/lang/Appendable" (some 0) with
  accessFlags := 1537
  interfaces := #[]
  cf := some (fileOf pool10 1 #[] #[] 1537 3 #[] #[])
  fields := #[]
  methods := #[]
  instanceTypes := #[]
  staticTypes := #[]
  resolved := Array.replicate 14 none
  statics := none }

def pool11 : Array CpInfo := pool [(1, .class_ 2), (0, u "java/lang/String"), (0, .methodref 4 5), (0, .class_ 6), (0, .nameAndType 7 8), (0, u "java/lang/Object"), (0, u "<init>"), (0, u "()V"), (1, .class_ 12), (1, u "java/lang/AbstractStringBuilder"), (0, u "EMPTYVALUE"), (0, u "[B"), (0, .fieldref 10 16), (0, .nameAndType 17 14), (0, u "value"), (0, .fieldref 1 19), (0, .nameAndType 20 21), (0, u "COMPACT_STRINGS"), (0, u "Z"), (0, .fieldref 10 23), (0, .nameAndType 24 25), (0, u "coder"), (0, u "B"), (0, .methodref 27 28), (0, .class_ 29), (0, .nameAndType 30 31), (0, u "java/lang/StringUTF16"), (0, u "newBytesFor"), (0, u "(I)[B"), (0, .methodref 1 33), (0, .nameAndType 34 35), (0, u "length"), (0, u "()I"), (3, .integer 2147483647), (0, .methodref 1 41), (0, .nameAndType 24 42), (0, u "()B"), (2, u "append"), (0, u "(Ljava/lang/String;)Ljava/lang/AbstractStringBuilder;"), (1, .class_ 49), (0, u "java/lang/CharSequence"), (19, u "(Ljava/lang/String;)V"), (5, u "maybeLatin1"), (3, .fieldref 10 80), (0, .nameAndType 81 82), (0, u "count"), (0, u "I"), (0, .methodref 10 84), (0, .nameAndType 85 86), (0, u "isLatin1"), (0, u "()Z"), (1, .class_ 90), (1, u "java/lang/StringLatin1"), (9, .methodref 10 101), (0, .nameAndType 102 103), (0, u "ensureCapacityInternal"), (0, u "(I)V"), (0, .methodref 10 105), (0, .nameAndType 106 107), (0, u "newCapacity"), (0, u "(I)I"), (0, .methodref 109 110), (0, .class_ 111), (0, .nameAndType 112 113), (0, u "java/util/Arrays"), (0, u "copyOf"), (0, u "([BI)[B"), (0, .methodref 115 116), (0, .class_ 117), (0, .nameAndType 118 119), (0, u "jdk/internal/util/ArraysSupport"), (0, u "newLength"), (0, u "(III)I"), (5, .methodref 88 126), (0, .nameAndType 127 128), (0, u "inflate"), (0, u "([BI[BII)V"), (7, u "([BII)V"), (54, .methodref 88 192), (0, .nameAndType 193 194), (0, u "canEncode"), (0, u "(C)Z"), (0, .methodref 10 196), (0, .nameAndType 127 8), (0, .methodref 27 198), (0, .nameAndType 199 136), (0, u "putCharSB"), (8, .methodref 10 209), (0, .nameAndType 210 211), (0, u "putStringAt"), (0, u "(ILjava/lang/String;)V"), (5, u "inflateIfNeededFor"), (2, .nameAndType 221 222), (0, u "getBytes"), (0, u "([BIB)V"), (69, u "(C)Ljava/lang/AbstractStringBuilder;"), (104, .methodref 10 398), (0, .nameAndType 217 69), (0, .methodref 1 220), (3, u "()[B"), (40, .class_ 445), (0, u "java/lang/Appendable"), (106, u "getValue")] 56

def k11m0 : Method := { name := "<init>", desc := "()V", sig := { parameters := [], returnType := none }, accessFlags := 0, code := none }
def k11c1 : Code := { maxStack := 2, maxLocals := 2, code := jdk_68_method_2_code, exceptionTable := #[], attributes := #[] }
def k11m1 : Method := { name := "<init>", desc := "(I)V", sig := { parameters := [.int], returnType := none }, accessFlags := 0, code := some k11c1 }
def k11c2 : Code := { maxStack := 1, maxLocals := 1, code := jdk_68_method_6_code, exceptionTable := #[], attributes := #[] }
def k11m2 : Method := { name := "length", desc := "()I", sig := { parameters := [], returnType := some .int }, accessFlags := 1, code := some k11c2 }
def k11c3 : Code := { maxStack := 4, maxLocals := 3, code := jdk_68_method_9_code, exceptionTable := #[], attributes := #[] }
def k11m3 : Method := { name := "ensureCapacityInternal", desc := "(I)V", sig := { parameters := [.int], returnType := none }, accessFlags := 2, code := some k11c3 }
def k11c4 : Code := { maxStack := 5, maxLocals := 6, code := jdk_68_method_10_code, exceptionTable := #[], attributes := #[] }
def k11m4 : Method := { name := "newCapacity", desc := "(I)I", sig := { parameters := [.int], returnType := some .int }, accessFlags := 2, code := some k11c4 }
def k11c5 : Code := { maxStack := 5, maxLocals := 2, code := jdk_68_method_11_code, exceptionTable := #[], attributes := #[] }
def k11m5 : Method := { name := "inflate", desc := "()V", sig := { parameters := [], returnType := none }, accessFlags := 2, code := some k11c5 }
def k11c6 : Code := { maxStack := 3, maxLocals := 3, code := jdk_68_method_22_code, exceptionTable := #[], attributes := #[] }
def k11m6 : Method := { name := "append", desc := "(Ljava/lang/String;)Ljava/lang/AbstractStringBuilder;", sig := { parameters := [(.object "java/lang/String")], returnType := some (.object "java/lang/AbstractStringBuilder") }, accessFlags := 1, code := some k11c6 }
def k11c7 : Code := { maxStack := 5, maxLocals := 2, code := jdk_68_method_31_code, exceptionTable := #[], attributes := #[] }
def k11m7 : Method := { name := "append", desc := "(C)Ljava/lang/AbstractStringBuilder;", sig := { parameters := [.char], returnType := some (.object "java/lang/AbstractStringBuilder") }, accessFlags := 1, code := some k11c7 }
def k11c8 : Code := { maxStack := 1, maxLocals := 1, code := jdk_68_method_64_code, exceptionTable := #[], attributes := #[] }
def k11m8 : Method := { name := "getValue", desc := "()[B", sig := { parameters := [], returnType := some (.array .byte) }, accessFlags := 16, code := some k11c8 }
def k11c9 : Code := { maxStack := 1, maxLocals := 1, code := jdk_68_method_68_code, exceptionTable := #[], attributes := #[] }
def k11m9 : Method := { name := "isLatin1", desc := "()Z", sig := { parameters := [], returnType := some .boolean }, accessFlags := 16, code := some k11c9 }
def k11c10 : Code := { maxStack := 2, maxLocals := 2, code := jdk_68_method_71_code, exceptionTable := #[], attributes := #[] }
def k11m10 : Method := { name := "inflateIfNeededFor", desc := "(Ljava/lang/String;)V", sig := { parameters := [(.object "java/lang/String")], returnType := none }, accessFlags := 2, code := some k11c10 }
def k11c11 : Code := { maxStack := 4, maxLocals := 3, code := jdk_68_method_73_code, exceptionTable := #[], attributes := #[] }
def k11m11 : Method := { name := "putStringAt", desc := "(ILjava/lang/String;)V", sig := { parameters := [.int, (.object "java/lang/String")], returnType := none }, accessFlags := 2, code := some k11c11 }
/-- java/lang/AbstractStringBuilder -/
def k11 : Class := { plain "java/lang/AbstractStringBuilder" (some 0) with
  accessFlags := 1056
  interfaces := #[10, 4]
  cf := some (fileOf pool11 10 #[] #[{ accessFlags := 0, nameIndex := 7, descriptorIndex := 8, attributes := #[] }, { accessFlags := 0, nameIndex := 7, descriptorIndex := 103, attributes := #[] }, { accessFlags := 1, nameIndex := 34, descriptorIndex := 35, attributes := #[] }, { accessFlags := 2, nameIndex := 102, descriptorIndex := 103, attributes := #[] }, { accessFlags := 2, nameIndex := 106, descriptorIndex := 107, attributes := #[] }, { accessFlags := 2, nameIndex := 127, descriptorIndex := 8, attributes := #[] }, { accessFlags := 1, nameIndex := 45, descriptorIndex := 46, attributes := #[] }, { accessFlags := 1, nameIndex := 45, descriptorIndex := 292, attributes := #[] }, { accessFlags := 16, nameIndex := 552, descriptorIndex := 403, attributes := #[] }, { accessFlags := 16, nameIndex := 85, descriptorIndex := 86, attributes := #[] }, { accessFlags := 2, nameIndex := 217, descriptorIndex := 69, attributes := #[] }, { accessFlags := 2, nameIndex := 210, descriptorIndex := 211, attributes := #[] }] 1056 4 #[444, 48] #[{ accessFlags := 0, nameIndex := 17, descriptorIndex := 14, attributes := #[] }, { accessFlags := 0, nameIndex := 24, descriptorIndex := 25, attributes := #[] }, { accessFlags := 0, nameIndex := 75, descriptorIndex := 21, attributes := #[] }, { accessFlags := 0, nameIndex := 81, descriptorIndex := 82, attributes := #[] }, { accessFlags := 26, nameIndex := 13, descriptorIndex := 14, attributes := #[] }])
  fields := #[{ name := "value", type := (.array .byte), accessFlags := 0, slot := 0, constantValue := 0 }, { name := "coder", type := .byte, accessFlags := 0, slot := 1, constantValue := 0 }, { name := "maybeLatin1", type := .boolean, accessFlags := 0, slot := 2, constantValue := 0 }, { name := "count", type := .int, accessFlags := 0, slot := 3, constantValue := 0 }, { name := "EMPTYVALUE", type := (.array .byte), accessFlags := 26, slot := 0, constantValue := 0 }]
  methods := #[k11m0, k11m1, k11m2, k11m3, k11m4, k11m5, k11m6, k11m7, k11m8, k11m9, k11m10, k11m11]
  instanceTypes := #[(.array .byte), .byte, .boolean, .int]
  staticTypes := #[(.array .byte)]
  resolved := Array.replicate 609 none
  statics := none }

def pool12 : Array CpInfo := pool [(1, .methodref 2 3), (0, .class_ 4), (0, .nameAndType 5 6), (0, u "java/lang/AbstractStringBuilder"), (0, u "<init>"), (0, u "(I)V"), (11, .class_ 20), (1, u "java/lang/String"), (3, .class_ 26), (1, u "java/lang/StringBuilder"), (0, u "append"), (0, u "(Ljava/lang/String;)Ljava/lang/StringBuilder;"), (0, .methodref 2 30), (0, .nameAndType 27 31), (0, u "(Ljava/lang/String;)Ljava/lang/AbstractStringBuilder;"), (18, .methodref 2 51), (0, .nameAndType 27 52), (0, u "(C)Ljava/lang/AbstractStringBuilder;"), (84, .methodref 18 138), (0, .nameAndType 5 139), (0, u "(Ljava/lang/StringBuilder;)V"), (5, u "()V"), (10, u "()I"), (129, u "(C)Ljava/lang/StringBuilder;"), (56, .methodref 2 344), (0, .nameAndType 345 156), (0, u "length"), (3, .class_ 350), (0, u "java/lang/Appendable"), (0, .class_ 352), (0, u "java/io/Serializable"), (0, .class_ 354), (0, u "java/lang/Comparable"), (0, .class_ 356), (0, u "java/lang/CharSequence"), (0, u "serialVersionUID"), (0, u "J"), (40, u "toString"), (0, u "()Ljava/lang/String;")] 21

def k12c0 : Code := { maxStack := 2, maxLocals := 1, code := jdk_67_method_1_code, exceptionTable := #[], attributes := #[] }
def k12m0 : Method := { name := "<init>", desc := "()V", sig := { parameters := [], returnType := none }, accessFlags := 1, code := some k12c0 }
def k12c1 : Code := { maxStack := 2, maxLocals := 2, code := jdk_67_method_7_code, exceptionTable := #[], attributes := #[] }
def k12m1 : Method := { name := "append", desc := "(Ljava/lang/String;)Ljava/lang/StringBuilder;", sig := { parameters := [(.object "java/lang/String")], returnType := some (.object "java/lang/StringBuilder") }, accessFlags := 1, code := some k12c1 }
def k12c2 : Code := { maxStack := 2, maxLocals := 2, code := jdk_67_method_14_code, exceptionTable := #[], attributes := #[] }
def k12m2 : Method := { name := "append", desc := "(C)Ljava/lang/StringBuilder;", sig := { parameters := [.char], returnType := some (.object "java/lang/StringBuilder") }, accessFlags := 1, code := some k12c2 }
def k12c3 : Code := { maxStack := 3, maxLocals := 1, code := jdk_67_method_42_code, exceptionTable := #[], attributes := #[] }
def k12m3 : Method := { name := "toString", desc := "()Ljava/lang/String;", sig := { parameters := [], returnType := some (.object "java/lang/String") }, accessFlags := 1, code := some k12c3 }
def k12c4 : Code := { maxStack := 1, maxLocals := 1, code := jdk_67_method_93_code, exceptionTable := #[], attributes := #[] }
def k12m4 : Method := { name := "length", desc := "()I", sig := { parameters := [], returnType := some .int }, accessFlags := 4161, code := some k12c4 }
/-- java/lang/StringBuilder -/
def k12 : Class := { plain "java/lang/StringBuilder" (some 11) with
  accessFlags := 49
  interfaces := #[10, 2, 3, 4]
  cf := some (fileOf pool12 24 #[] #[{ accessFlags := 1, nameIndex := 5, descriptorIndex := 145, attributes := #[] }, { accessFlags := 1, nameIndex := 27, descriptorIndex := 28, attributes := #[] }, { accessFlags := 1, nameIndex := 27, descriptorIndex := 286, attributes := #[] }, { accessFlags := 1, nameIndex := 399, descriptorIndex := 400, attributes := #[] }, { accessFlags := 4161, nameIndex := 345, descriptorIndex := 156, attributes := #[] }] 49 2 #[349, 351, 353, 355] #[{ accessFlags := 24, nameIndex := 357, descriptorIndex := 358, attributes := #[] }])
  fields := #[{ name := "serialVersionUID", type := .long, accessFlags := 24, slot := 0, constantValue := 0 }]
  methods := #[k12m0, k12m1, k12m2, k12m3, k12m4]
  instanceTypes := #[(.array .byte), .byte, .boolean, .int]
  staticTypes := #[.long]
  resolved := Array.replicate 422 none
  statics := none }

def pool13 : Array CpInfo := pool [(2, .class_ 4), (1, u "java/lang/Object"), (0, u "<init>"), (0, u "()V"), (1, .class_ 10), (1, u "java/lang/System"), (0, u "allowSecurityManager"), (0, u "I"), (16, u "cons"), (0, u "Ljava/io/Console;"), (77, .class_ 110), (1, u "java/lang/System$CallersHolder"), (43, u "initialErrStream"), (0, u "Ljava/io/PrintStream;"), (19, u "security"), (0, u "Ljava/lang/SecurityManager;"), (31, .class_ 209), (0, u "java/lang/System$1"), (7, u "props"), (0, u "Ljava/util/Properties;"), (2, u "lineSeparator"), (0, u "Ljava/lang/String;"), (96, .class_ 321), (1, u "java/lang/System$LoggerFinder"), (5, .class_ 328), (0, u "java/lang/System$Logger"), (67, u "err"), (2, u "out"), (91, u "notSupportedJnuEncoding"), (15, u "in"), (17, u "initialIn"), (0, u "Ljava/io/InputStream;"), (35, u "bootLayer"), (0, u "Ljava/lang/ModuleLayer;"), (99, .class_ 664), (0, u "java/lang/System$2"), (9, u "NEVER"), (2, u "MAYBE"), (49, u "arraycopy"), (0, u "(Ljava/lang/Object;ILjava/lang/Object;II)V"), (72, .class_ 802), (0, u "java/lang/System$Logger$Level")] 31

def k13m0 : Method := { name := "<init>", desc := "()V", sig := { parameters := [], returnType := none }, accessFlags := 2, code := none }
def k13m1 : Method := { name := "arraycopy", desc := "(Ljava/lang/Object;ILjava/lang/Object;II)V", sig := { parameters := [(.object "java/lang/Object"), .int, (.object "java/lang/Object"), .int, .int], returnType := none }, accessFlags := 265, code := none }
/-- java/lang/System -/
def k13 : Class := { plain "java/lang/System" (some 0) with
  accessFlags := 49
  interfaces := #[]
  cf := some (fileOf pool13 8 #[.nestMembers #[319, 327, 801, 108, 663, 208]] #[{ accessFlags := 2, nameIndex := 5, descriptorIndex := 6, attributes := #[] }, { accessFlags := 265, nameIndex := 727, descriptorIndex := 728, attributes := #[] }] 49 2 #[] #[{ accessFlags := 25, nameIndex := 507, descriptorIndex := 526, attributes := #[] }, { accessFlags := 25, nameIndex := 399, descriptorIndex := 155, attributes := #[] }, { accessFlags := 25, nameIndex := 396, descriptorIndex := 155, attributes := #[] }, { accessFlags := 10, nameIndex := 525, descriptorIndex := 526, attributes := #[] }, { accessFlags := 26, nameIndex := 674, descriptorIndex := 12, attributes := #[] }, { accessFlags := 26, nameIndex := 677, descriptorIndex := 12, attributes := #[] }, { accessFlags := 10, nameIndex := 11, descriptorIndex := 12, attributes := #[] }, { accessFlags := 74, nameIndex := 175, descriptorIndex := 176, attributes := #[] }, { accessFlags := 10, nameIndex := 491, descriptorIndex := 222, attributes := #[] }, { accessFlags := 74, nameIndex := 29, descriptorIndex := 30, attributes := #[] }, { accessFlags := 74, nameIndex := 154, descriptorIndex := 155, attributes := #[] }, { accessFlags := 10, nameIndex := 217, descriptorIndex := 218, attributes := #[] }, { accessFlags := 10, nameIndex := 221, descriptorIndex := 222, attributes := #[] }, { accessFlags := 8, nameIndex := 562, descriptorIndex := 563, attributes := #[] }])
  fields := #[{ name := "in", type := (.object "java/io/InputStream"), accessFlags := 25, slot := 0, constantValue := 0 }, { name := "out", type := (.object "java/io/PrintStream"), accessFlags := 25, slot := 1, constantValue := 0 }, { name := "err", type := (.object "java/io/PrintStream"), accessFlags := 25, slot := 2, constantValue := 0 }, { name := "initialIn", type := (.object "java/io/InputStream"), accessFlags := 10, slot := 3, constantValue := 0 }, { name := "NEVER", type := .int, accessFlags := 26, slot := 4, constantValue := 0 }, { name := "MAYBE", type := .int, accessFlags := 26, slot := 5, constantValue := 0 }, { name := "allowSecurityManager", type := .int, accessFlags := 10, slot := 6, constantValue := 0 }, { name := "security", type := (.object "java/lang/SecurityManager"), accessFlags := 74, slot := 7, constantValue := 0 }, { name := "notSupportedJnuEncoding", type := (.object "java/lang/String"), accessFlags := 10, slot := 8, constantValue := 0 }, { name := "cons", type := (.object "java/io/Console"), accessFlags := 74, slot := 9, constantValue := 0 }, { name := "initialErrStream", type := (.object "java/io/PrintStream"), accessFlags := 74, slot := 10, constantValue := 0 }, { name := "props", type := (.object "java/util/Properties"), accessFlags := 10, slot := 11, constantValue := 0 }, { name := "lineSeparator", type := (.object "java/lang/String"), accessFlags := 10, slot := 12, constantValue := 0 }, { name := "bootLayer", type := (.object "java/lang/ModuleLayer"), accessFlags := 8, slot := 13, constantValue := 0 }]
  methods := #[k13m0, k13m1]
  instanceTypes := #[]
  staticTypes := #[(.object "java/io/InputStream"), (.object "java/io/PrintStream"), (.object "java/io/PrintStream"), (.object "java/io/InputStream"), .int, .int, .int, (.object "java/lang/SecurityManager"), (.object "java/lang/String"), (.object "java/io/Console"), (.object "java/io/PrintStream"), (.object "java/util/Properties"), (.object "java/lang/String"), (.object "java/lang/ModuleLayer")]
  resolved := Array.replicate 834 none
  statics := none }

def pool14 : Array CpInfo := pool [(1, .class_ 2), (0, u "java/lang/String"), (1, .class_ 6), (1, u "java/lang/Object"), (0, u "<init>"), (0, u "()V"), (0, .methodref 1 10), (0, .nameAndType 11 12), (0, u "checkIndex"), (0, u "(II)V"), (1, .class_ 16), (1, u "java/lang/StringLatin1"), (0, u "inflate"), (2, .class_ 22), (1, u "java/lang/StringUTF16"), (3, .nameAndType 17 27), (0, u "([BI[BII)V"), (25, u "([BI)C"), (36, u "canEncode"), (14, u "(C)Z"), (15, u "$assertionsDisabled"), (0, u "Z"), (98, .class_ 223), (1, u "java/lang/StringLatin1$LinesSpliterator"), (16, .methodref 20 26), (11, u "charAt"), (137, .class_ 391), (0, u "java/lang/StringLatin1$CharsSpliterator")] 3

def k14m0 : Method := { name := "<init>", desc := "()V", sig := { parameters := [], returnType := none }, accessFlags := 0, code := none }
def k14c1 : Code := { maxStack := 2, maxLocals := 2, code := jdk_43_method_2_code, exceptionTable := #[], attributes := #[] }
def k14m1 : Method := { name := "charAt", desc := "([BI)C", sig := { parameters := [(.array .byte), .int], returnType := some .char }, accessFlags := 9, code := some k14c1 }
def k14c2 : Code := { maxStack := 2, maxLocals := 1, code := jdk_43_method_3_code, exceptionTable := #[], attributes := #[] }
def k14m2 : Method := { name := "canEncode", desc := "(C)Z", sig := { parameters := [.char], returnType := some .boolean }, accessFlags := 9, code := some k14c2 }
def k14c3 : Code := { maxStack := 5, maxLocals := 5, code := jdk_43_method_50_code, exceptionTable := #[], attributes := #[] }
def k14m3 : Method := { name := "inflate", desc := "([BI[BII)V", sig := { parameters := [(.array .byte), .int, (.array .byte), .int, .int], returnType := none }, accessFlags := 9, code := some k14c3 }
/-- java/lang/StringLatin1 -/
def k14 : Class := { plain "java/lang/StringLatin1" (some 0) with
  accessFlags := 48
  interfaces := #[]
  cf := some (fileOf pool14 14 #[.nestMembers #[390, 221]] #[{ accessFlags := 0, nameIndex := 7, descriptorIndex := 8, attributes := #[] }, { accessFlags := 9, nameIndex := 252, descriptorIndex := 53, attributes := #[] }, { accessFlags := 9, nameIndex := 90, descriptorIndex := 105, attributes := #[] }, { accessFlags := 9, nameIndex := 17, descriptorIndex := 27, attributes := #[] }] 48 4 #[] #[{ accessFlags := 4120, nameIndex := 121, descriptorIndex := 122, attributes := #[] }])
  fields := #[{ name := "$assertionsDisabled", type := .boolean, accessFlags := 4120, slot := 0, constantValue := 0 }]
  methods := #[k14m0, k14m1, k14m2, k14m3]
  instanceTypes := #[]
  staticTypes := #[.boolean]
  resolved := Array.replicate 395 none
  statics := none }

def pool15 : Array CpInfo := pool [(2, .class_ 4), (1, u "java/lang/Object"), (0, u "<init>"), (0, u "()V"), (7, .class_ 16), (1, u "java/util/Arrays"), (57, .class_ 76), (1, u "java/util/Arrays$NaturalOrder"), (32, u "()Ljava/lang/Object;"), (3, .class_ 115), (1, u "java/util/Arrays$LegacyMergeSort"), (1, u "Z"), (10, .nameAndType 129 109), (0, u "clone"), (9, u "copyOfRange"), (10, .methodref 151 152), (0, .class_ 153), (0, .nameAndType 154 155), (0, u "java/lang/System"), (0, u "arraycopy"), (0, u "(Ljava/lang/Object;ILjava/lang/Object;II)V"), (146, u "copyOf"), (1, .methodref 305 306), (0, .class_ 307), (0, .nameAndType 308 309), (0, u "java/lang/Math"), (0, u "min"), (0, u "(II)I"), (0, .methodref 311 128), (0, .class_ 312), (0, u "[B"), (26, .methodref 14 340), (0, .nameAndType 341 342), (0, u "copyOfRangeByte"), (0, u "([BII)[B"), (0, .methodref 14 344), (0, .nameAndType 345 346), (0, u "checkLength"), (0, u "(II)V"), (28, .class_ 376), (0, u "java/util/Arrays$ArrayList"), (68, u "$assertionsDisabled"), (269, u "MIN_ARRAY_SORT_GRAN"), (0, u "I"), (2, u "INSERTIONSORT_THRESHOLD"), (149, u "([BI)[B"), (105, .class_ 976), (0, u "java/util/Arrays$ArrayItr")] 52

def k15m0 : Method := { name := "<init>", desc := "()V", sig := { parameters := [], returnType := none }, accessFlags := 2, code := none }
def k15c1 : Code := { maxStack := 6, maxLocals := 3, code := jdk_65_method_121_code, exceptionTable := #[], attributes := #[] }
def k15m1 : Method := { name := "copyOf", desc := "([BI)[B", sig := { parameters := [(.array .byte), .int], returnType := some (.array .byte) }, accessFlags := 9, code := some k15c1 }
def k15c2 : Code := { maxStack := 4, maxLocals := 2, code := jdk_65_method_131_code, exceptionTable := #[], attributes := #[] }
def k15m2 : Method := { name := "checkLength", desc := "(II)V", sig := { parameters := [.int, .int], returnType := none }, accessFlags := 10, code := some k15c2 }
def k15c3 : Code := { maxStack := 3, maxLocals := 3, code := jdk_65_method_132_code, exceptionTable := #[], attributes := #[] }
def k15m3 : Method := { name := "copyOfRange", desc := "([BII)[B", sig := { parameters := [(.array .byte), .int, .int], returnType := some (.array .byte) }, accessFlags := 9, code := some k15c3 }
def k15c4 : Code := { maxStack := 6, maxLocals := 5, code := jdk_65_method_133_code, exceptionTable := #[], attributes := #[] }
def k15m4 : Method := { name := "copyOfRangeByte", desc := "([BII)[B", sig := { parameters := [(.array .byte), .int, .int], returnType := some (.array .byte) }, accessFlags := 10, code := some k15c4 }
/-- java/util/Arrays -/
def k15 : Class := { plain "java/util/Arrays" (some 0) with
  accessFlags := 49
  interfaces := #[]
  cf := some (fileOf pool15 14 #[.nestMembers #[975, 375, 113, 74]] #[{ accessFlags := 2, nameIndex := 5, descriptorIndex := 6, attributes := #[] }, { accessFlags := 9, nameIndex := 302, descriptorIndex := 869, attributes := #[] }, { accessFlags := 10, nameIndex := 345, descriptorIndex := 346, attributes := #[] }, { accessFlags := 9, nameIndex := 139, descriptorIndex := 342, attributes := #[] }, { accessFlags := 10, nameIndex := 341, descriptorIndex := 342, attributes := #[] }] 49 2 #[] #[{ accessFlags := 26, nameIndex := 715, descriptorIndex := 716, attributes := #[] }, { accessFlags := 26, nameIndex := 719, descriptorIndex := 716, attributes := #[] }, { accessFlags := 4120, nameIndex := 445, descriptorIndex := 117, attributes := #[] }])
  fields := #[{ name := "MIN_ARRAY_SORT_GRAN", type := .int, accessFlags := 26, slot := 0, constantValue := 0 }, { name := "INSERTIONSORT_THRESHOLD", type := .int, accessFlags := 26, slot := 1, constantValue := 0 }, { name := "$assertionsDisabled", type := .boolean, accessFlags := 4120, slot := 2, constantValue := 0 }]
  methods := #[k15m0, k15m1, k15m2, k15m3, k15m4]
  instanceTypes := #[]
  staticTypes := #[.int, .int, .boolean]
  resolved := Array.replicate 1029 none
  statics := none }

def pool16 : Array CpInfo := pool [(1, .class_ 2), (0, u "java/lang/Math"), (1, .class_ 6), (1, u "java/lang/Object"), (0, u "<init>"), (0, u "()V"), (89, .class_ 100), (1, u "java/lang/Math$RandomNumberGeneratorHolder"), (71, u "negativeZeroFloatBits"), (0, u "J"), (2, u "negativeZeroDoubleBits"), (21, u "max"), (2, u "min"), (43, u "$assertionsDisabled"), (0, u "Z"), (88, u "(II)I"), (2, u "twoToTheDoubleScaleDown"), (0, u "D"), (4, u "twoToTheDoubleScaleUp"), (9, u "E"), (3, u "PI"), (2, u "TAU"), (2, u "DEGREES_TO_RADIANS"), (0, u "RADIANS_TO_DEGREES")] 94

def k16m0 : Method := { name := "<init>", desc := "()V", sig := { parameters := [], returnType := none }, accessFlags := 2, code := none }
def k16c1 : Code := { maxStack := 2, maxLocals := 2, code := jdk_29_method_65_code, exceptionTable := #[], attributes := #[] }
def k16m1 : Method := { name := "max", desc := "(II)I", sig := { parameters := [.int, .int], returnType := some .int }, accessFlags := 9, code := some k16c1 }
def k16c2 : Code := { maxStack := 2, maxLocals := 2, code := jdk_29_method_69_code, exceptionTable := #[], attributes := #[] }
def k16m2 : Method := { name := "min", desc := "(II)I", sig := { parameters := [.int, .int], returnType := some .int }, accessFlags := 9, code := some k16c2 }
/-- java/lang/Math -/
def k16 : Class := { plain "java/lang/Math" (some 0) with
  accessFlags := 49
  interfaces := #[]
  cf := some (fileOf pool16 1 #[.nestMembers #[98]] #[{ accessFlags := 2, nameIndex := 7, descriptorIndex := 8, attributes := #[] }, { accessFlags := 9, nameIndex := 198, descriptorIndex := 335, attributes := #[] }, { accessFlags := 9, nameIndex := 201, descriptorIndex := 335, attributes := #[] }] 49 4 #[] #[{ accessFlags := 25, nameIndex := 354, descriptorIndex := 339, attributes := #[] }, { accessFlags := 25, nameIndex := 358, descriptorIndex := 339, attributes := #[] }, { accessFlags := 25, nameIndex := 361, descriptorIndex := 339, attributes := #[] }, { accessFlags := 26, nameIndex := 364, descriptorIndex := 339, attributes := #[] }, { accessFlags := 26, nameIndex := 365, descriptorIndex := 339, attributes := #[] }, { accessFlags := 26, nameIndex := 172, descriptorIndex := 173, attributes := #[] }, { accessFlags := 26, nameIndex := 176, descriptorIndex := 173, attributes := #[] }, { accessFlags := 8, nameIndex := 344, descriptorIndex := 339, attributes := #[] }, { accessFlags := 8, nameIndex := 338, descriptorIndex := 339, attributes := #[] }, { accessFlags := 4120, nameIndex := 245, descriptorIndex := 246, attributes := #[] }])
  fields := #[{ name := "E", type := .double, accessFlags := 25, slot := 0, constantValue := 0 }, { name := "PI", type := .double, accessFlags := 25, slot := 1, constantValue := 0 }, { name := "TAU", type := .double, accessFlags := 25, slot := 2, constantValue := 0 }, { name := "DEGREES_TO_RADIANS", type := .double, accessFlags := 26, slot := 3, constantValue := 0 }, { name := "RADIANS_TO_DEGREES", type := .double, accessFlags := 26, slot := 4, constantValue := 0 }, { name := "negativeZeroFloatBits", type := .long, accessFlags := 26, slot := 5, constantValue := 0 }, { name := "negativeZeroDoubleBits", type := .long, accessFlags := 26, slot := 6, constantValue := 0 }, { name := "twoToTheDoubleScaleUp", type := .double, accessFlags := 8, slot := 7, constantValue := 0 }, { name := "twoToTheDoubleScaleDown", type := .double, accessFlags := 8, slot := 8, constantValue := 0 }, { name := "$assertionsDisabled", type := .boolean, accessFlags := 4120, slot := 9, constantValue := 0 }]
  methods := #[k16m0, k16m1, k16m2]
  instanceTypes := #[]
  staticTypes := #[.double, .double, .double, .double, .double, .long, .long, .double, .double, .boolean]
  resolved := Array.replicate 460 none
  statics := none }

def pool17 : Array CpInfo := pool [(2, .class_ 4), (1, u "java/lang/Object"), (0, u "<init>"), (0, u "()V"), (17, .class_ 26), (1, u "jdk/internal/util/Preconditions"), (6, u "checkIndex"), (15, u "checkFromIndexSize"), (5, .class_ 56), (0, u "jdk/internal/util/Preconditions$4"), (57, .class_ 115), (0, u "jdk/internal/util/Preconditions$1"), (7, u "SIOOBE_FORMATTER"), (0, u "Ljava/util/function/BiFunction;"), (0, .class_ 126), (0, u "jdk/internal/util/Preconditions$2"), (3, u "AIOOBE_FORMATTER"), (0, .class_ 132), (0, u "jdk/internal/util/Preconditions$3"), (3, u "IOOBE_FORMATTER"), (41, u "(IILjava/util/function/BiFunction;)I"), (4, u "(IIILjava/util/function/BiFunction;)I")] 10

def k17m0 : Method := { name := "<init>", desc := "()V", sig := { parameters := [], returnType := none }, accessFlags := 1, code := none }
def k17c1 : Code := { maxStack := 3, maxLocals := 3, code := jdk_41_method_11_code, exceptionTable := #[], attributes := #[] }
def k17m1 : Method := { name := "checkIndex", desc := "(IILjava/util/function/BiFunction;)I", sig := { parameters := [.int, .int, (.object "java/util/function/BiFunction")], returnType := some .int }, accessFlags := 9, code := some k17c1 }
def k17c2 : Code := { maxStack := 4, maxLocals := 4, code := jdk_41_method_13_code, exceptionTable := #[], attributes := #[] }
def k17m2 : Method := { name := "checkFromIndexSize", desc := "(IIILjava/util/function/BiFunction;)I", sig := { parameters := [.int, .int, .int, (.object "java/util/function/BiFunction")], returnType := some .int }, accessFlags := 9, code := some k17c2 }
/-- jdk/internal/util/Preconditions -/
def k17 : Class := { plain "jdk/internal/util/Preconditions" (some 0) with
  accessFlags := 33
  interfaces := #[]
  cf := some (fileOf pool17 24 #[.nestMembers #[55, 131, 125, 114]] #[{ accessFlags := 1, nameIndex := 5, descriptorIndex := 6, attributes := #[] }, { accessFlags := 9, nameIndex := 33, descriptorIndex := 178, attributes := #[] }, { accessFlags := 9, nameIndex := 49, descriptorIndex := 183, attributes := #[] }] 33 2 #[] #[{ accessFlags := 25, nameIndex := 123, descriptorIndex := 124, attributes := #[] }, { accessFlags := 25, nameIndex := 130, descriptorIndex := 124, attributes := #[] }, { accessFlags := 25, nameIndex := 136, descriptorIndex := 124, attributes := #[] }])
  fields := #[{ name := "SIOOBE_FORMATTER", type := (.object "java/util/function/BiFunction"), accessFlags := 25, slot := 0, constantValue := 0 }, { name := "AIOOBE_FORMATTER", type := (.object "java/util/function/BiFunction"), accessFlags := 25, slot := 1, constantValue := 0 }, { name := "IOOBE_FORMATTER", type := (.object "java/util/function/BiFunction"), accessFlags := 25, slot := 2, constantValue := 0 }]
  methods := #[k17m0, k17m1, k17m2]
  instanceTypes := #[]
  staticTypes := #[(.object "java/util/function/BiFunction"), (.object "java/util/function/BiFunction"), (.object "java/util/function/BiFunction")]
  resolved := Array.replicate 194 none
  statics := some 2 }

def pool18 : Array CpInfo := pool [(1, .class_ 2), (0, u "java/lang/Cloneable"), (0, .class_ 4), (0, u "java/lang/Object")] 2

/-- java/lang/Cloneable -/
def k18 : Class := { plain "java/lang/Cloneable" (some 0) with
  accessFlags := 1537
  interfaces := #[]
  cf := some (fileOf pool18 1 #[] #[] 1537 3 #[] #[])
  fields := #[]
  methods := #[]
  instanceTypes := #[]
  staticTypes := #[]
  resolved := Array.replicate 7 none
  statics := none }

def pool19 : Array CpInfo := pool [(9, u "<init>"), (6, .class_ 18), (1, u "java/lang/Object"), (0, u "()V"), (1, .class_ 23), (1, u "jdk/internal/util/ArraysSupport"), (0, u "LOG2_ARRAY_LONG_INDEX_SCALE"), (0, u "I"), (2, u "U"), (0, u "Ljdk/internal/misc/Unsafe;"), (8, u "BIG_ENDIAN"), (0, u "Z"), (8, u "LOG2_BYTE_BIT_SIZE"), (4, u "LOG2_ARRAY_INT_INDEX_SCALE"), (54, u "JLA"), (0, u "Ljdk/internal/access/JavaLangAccess;"), (11, u "LOG2_ARRAY_BOOLEAN_INDEX_SCALE"), (9, u "LOG2_ARRAY_BYTE_INDEX_SCALE"), (5, u "LOG2_ARRAY_CHAR_INDEX_SCALE"), (5, u "LOG2_ARRAY_SHORT_INDEX_SCALE"), (18, u "LOG2_ARRAY_FLOAT_INDEX_SCALE"), (24, u "LOG2_ARRAY_DOUBLE_INDEX_SCALE"), (6, .methodref 195 196), (0, .class_ 197), (0, .nameAndType 198 199), (0, u "java/lang/Math"), (0, u "max"), (0, u "(II)I"), (0, .integer 2147483639), (76, u "T_BOOLEAN"), (2, u "T_CHAR"), (1, u "T_FLOAT"), (1, u "T_DOUBLE"), (1, u "T_BYTE"), (1, u "T_SHORT"), (1, u "T_INT"), (1, u "T_LONG"), (1, u "SOFT_MAX_ARRAY_LENGTH"), (56, u "newLength"), (0, u "(III)I")] 25

def k19m0 : Method := { name := "<init>", desc := "()V", sig := { parameters := [], returnType := none }, accessFlags := 2, code := none }
def k19c1 : Code := { maxStack := 3, maxLocals := 4, code := jdk_48_method_27_code, exceptionTable := #[], attributes := #[] }
def k19m1 : Method := { name := "newLength", desc := "(III)I", sig := { parameters := [.int, .int, .int], returnType := some .int }, accessFlags := 9, code := some k19c1 }
/-- jdk/internal/util/ArraysSupport -/
def k19 : Class := { plain "jdk/internal/util/ArraysSupport" (some 0) with
  accessFlags := 33
  interfaces := #[]
  cf := some (fileOf pool19 21 #[] #[{ accessFlags := 2, nameIndex := 9, descriptorIndex := 19, attributes := #[] }, { accessFlags := 9, nameIndex := 351, descriptorIndex := 352, attributes := #[] }] 33 16 #[] #[{ accessFlags := 24, nameIndex := 28, descriptorIndex := 29, attributes := #[] }, { accessFlags := 26, nameIndex := 38, descriptorIndex := 39, attributes := #[] }, { accessFlags := 25, nameIndex := 121, descriptorIndex := 25, attributes := #[] }, { accessFlags := 25, nameIndex := 131, descriptorIndex := 25, attributes := #[] }, { accessFlags := 25, nameIndex := 137, descriptorIndex := 25, attributes := #[] }, { accessFlags := 25, nameIndex := 143, descriptorIndex := 25, attributes := #[] }, { accessFlags := 25, nameIndex := 53, descriptorIndex := 25, attributes := #[] }, { accessFlags := 25, nameIndex := 24, descriptorIndex := 25, attributes := #[] }, { accessFlags := 25, nameIndex := 162, descriptorIndex := 25, attributes := #[] }, { accessFlags := 25, nameIndex := 187, descriptorIndex := 25, attributes := #[] }, { accessFlags := 26, nameIndex := 48, descriptorIndex := 25, attributes := #[] }, { accessFlags := 25, nameIndex := 277, descriptorIndex := 25, attributes := #[] }, { accessFlags := 25, nameIndex := 280, descriptorIndex := 25, attributes := #[] }, { accessFlags := 25, nameIndex := 282, descriptorIndex := 25, attributes := #[] }, { accessFlags := 25, nameIndex := 284, descriptorIndex := 25, attributes := #[] }, { accessFlags := 25, nameIndex := 286, descriptorIndex := 25, attributes := #[] }, { accessFlags := 25, nameIndex := 288, descriptorIndex := 25, attributes := #[] }, { accessFlags := 25, nameIndex := 290, descriptorIndex := 25, attributes := #[] }, { accessFlags := 25, nameIndex := 292, descriptorIndex := 25, attributes := #[] }, { accessFlags := 26, nameIndex := 108, descriptorIndex := 109, attributes := #[] }, { accessFlags := 25, nameIndex := 294, descriptorIndex := 25, attributes := #[] }])
  fields := #[{ name := "U", type := (.object "jdk/internal/misc/Unsafe"), accessFlags := 24, slot := 0, constantValue := 0 }, { name := "BIG_ENDIAN", type := .boolean, accessFlags := 26, slot := 1, constantValue := 0 }, { name := "LOG2_ARRAY_BOOLEAN_INDEX_SCALE", type := .int, accessFlags := 25, slot := 2, constantValue := 0 }, { name := "LOG2_ARRAY_BYTE_INDEX_SCALE", type := .int, accessFlags := 25, slot := 3, constantValue := 0 }, { name := "LOG2_ARRAY_CHAR_INDEX_SCALE", type := .int, accessFlags := 25, slot := 4, constantValue := 0 }, { name := "LOG2_ARRAY_SHORT_INDEX_SCALE", type := .int, accessFlags := 25, slot := 5, constantValue := 0 }, { name := "LOG2_ARRAY_INT_INDEX_SCALE", type := .int, accessFlags := 25, slot := 6, constantValue := 0 }, { name := "LOG2_ARRAY_LONG_INDEX_SCALE", type := .int, accessFlags := 25, slot := 7, constantValue := 0 }, { name := "LOG2_ARRAY_FLOAT_INDEX_SCALE", type := .int, accessFlags := 25, slot := 8, constantValue := 0 }, { name := "LOG2_ARRAY_DOUBLE_INDEX_SCALE", type := .int, accessFlags := 25, slot := 9, constantValue := 0 }, { name := "LOG2_BYTE_BIT_SIZE", type := .int, accessFlags := 26, slot := 10, constantValue := 0 }, { name := "T_BOOLEAN", type := .int, accessFlags := 25, slot := 11, constantValue := 0 }, { name := "T_CHAR", type := .int, accessFlags := 25, slot := 12, constantValue := 0 }, { name := "T_FLOAT", type := .int, accessFlags := 25, slot := 13, constantValue := 0 }, { name := "T_DOUBLE", type := .int, accessFlags := 25, slot := 14, constantValue := 0 }, { name := "T_BYTE", type := .int, accessFlags := 25, slot := 15, constantValue := 0 }, { name := "T_SHORT", type := .int, accessFlags := 25, slot := 16, constantValue := 0 }, { name := "T_INT", type := .int, accessFlags := 25, slot := 17, constantValue := 0 }, { name := "T_LONG", type := .int, accessFlags := 25, slot := 18, constantValue := 0 }, { name := "JLA", type := (.object "jdk/internal/access/JavaLangAccess"), accessFlags := 26, slot := 19, constantValue := 0 }, { name := "SOFT_MAX_ARRAY_LENGTH", type := .int, accessFlags := 25, slot := 20, constantValue := 0 }]
  methods := #[k19m0, k19m1]
  instanceTypes := #[]
  staticTypes := #[(.object "jdk/internal/misc/Unsafe"), .boolean, .int, .int, .int, .int, .int, .int, .int, .int, .int, .int, .int, .int, .int, .int, .int, .int, .int, (.object "jdk/internal/access/JavaLangAccess"), .int]
  resolved := Array.replicate 378 none
  statics := none }

/-- the primitive byte -/
def k20 : Class := { plain "byte" none with kind := .primitive 'B', accessFlags := 0x411 }
/-- [B -/
def k21 : Class := { plain "[B" (some 0) with kind := .array 20 .byte, interfaces := #[18, 2], accessFlags := 1041 }

/-- the primitive char -/
def k22 : Class := { plain "char" none with kind := .primitive 'C', accessFlags := 0x411 }
/-- [C -/
def k23 : Class := { plain "[C" (some 0) with kind := .array 22 .char, interfaces := #[18, 2], accessFlags := 1041 }

/-- the primitive int -/
def k24 : Class := { plain "int" none with kind := .primitive 'I', accessFlags := 0x411 }
/-- [I -/
def k25 : Class := { plain "[I" (some 0) with kind := .array 24 .int, interfaces := #[18, 2], accessFlags := 1041 }

def heap : Heap := #[{ cls := 7, slots := #[.long 0, .int 1, .null, .int 0, .null, .int 0, .int 0], vm := .statics 7 },
  { cls := 8, slots := #[.int 0, .int 8, .int 0, .int 1], vm := .statics 8 },
  { cls := 17, slots := #[.null, .null, .null], vm := .statics 17 }]
def classes : Array Class := #[k0, k1, k2, k3, k4, k5, k6, k7, k8, k9, k10, k11, k12, k13, k14, k15, k16, k17, k18, k19, k20, k21, k22, k23, k24, k25]
def interned : List (Array UInt16 × Addr) := []
def slotsUsed : Nat := 14
def theMethod : MethodId := ⟨1, 5⟩
def args0 : Array Value := #[.int 5, .int 6, .int 7, .int 8]
def aboutOver (below : List Frame) : State where
  vm := { classes := classes, interned := interned.toArray }
  heap := heap
  slotsUsed := slotsUsed
  threads := #[{ frames := .invoking theMethod args0 :: below }]
def below0 : List Frame := [.native { method := ⟨0, 0⟩, args := #[] }]
def about1 : State := aboutOver below0
def p0 : Program := .bare "" "" ""
def e0 : Env := launch0.env 0 0 0
theorem w_frames : about1.frames = Frame.invoking theMethod args0 :: below0 := rfl
set_option maxRecDepth 65536 in
theorem w_args : argsFit about1.vm theMethod args0 = true := by decide +kernel
set_option maxRecDepth 65536 in
theorem w_heap : heapFits about1 = true := by decide +kernel
set_option maxRecDepth 65536 in
theorem w_runnable : about1.curStatus? = some .runnable := by decide +kernel
set_option maxRecDepth 65536 in
theorem w_alone : about1.alone = true := by decide +kernel
set_option maxRecDepth 65536 in
theorem w_named : about1.methodNamed? x = some theMethod := by decide +kernel
set_option maxRecDepth 65536 in
theorem w_hears : about1.hears theMethod below0 = true := by decide +kernel
set_option maxRecDepth 65536 in
theorem w_ripe : about1.ripe theMethod args0 below0 = true := by decide +kernel
theorem w_running : about1.status = .running := rfl
set_option maxRecDepth 65536 in
theorem w_room : about1.hasRoom e0.platform room_1 = true :=
  launch0.hasRoom_least _ room_1 (by decide +kernel) (by decide +kernel) (by decide +kernel) (by decide +kernel) (by decide +kernel) (by decide +kernel)
theorem allAtoms_all (ts : List Jvm.Cond) (a : Array Jvm.Value) (st : Jvm.State) : (allAtoms ts).before a st = ts.all (fun c => c.before a st) := by
  induction ts with
  | nil => rfl
  | cons c t ih =>
    show (Jvm.Cond.and c (allAtoms t)).before a st = _
    rw [Jvm.Cond.before_and, ih, List.all_cons]
def words1 : List Jvm.Cond := Jvm.Cond.code x code maxLocals ret :: tables_1
/-- a 'code' word, met by the world's own term for the bytes: nothing is compared byte by byte -/
theorem code_word {y : MethodName} {bytes : ByteArray} {mx : Nat} {rt : Option FieldType} {a : Array Value} {s : State} {m : MethodId} {meth : Method} {c : Code} (h1 : s.methodNamed? y = some m) (h2 : s.vm.method? m = some meth) (h3 : meth.code = some c) (h4 : c.code = bytes)
    (h5 : (c.maxLocals == mx && c.exceptionTable.isEmpty && decide (c.maxStack ≤ mostOperands) && decide (meth.sig.returnType = rt) && !meth.locks && decide (parseMethodDescriptor y.desc = some meth.sig)) = true) : (Jvm.Cond.code y bytes mx rt).before a s = true := by
  simp only [Bool.and_eq_true, beq_iff_eq, Bool.not_eq_true', decide_eq_true_eq] at h5
  obtain ⟨⟨⟨⟨⟨g1, g2⟩, g3⟩, g4⟩, g5⟩, g6⟩ := h5
  simp [Cond.before, Cond.holds, Cond.value, h1, h2, h3, h4, g1, g2, g3, g4, g5, g6]
def isCode : Jvm.Cond → Bool
  | .code _ _ _ _ => true
  | _ => false
theorem all_split {L : List Jvm.Cond} {P : Jvm.Cond → Bool} (h1 : L.all (fun c => isCode c || P c) = true) (h2 : ∀ c ∈ L.filter isCode, P c = true) : L.all P = true := by
  refine List.all_eq_true.mpr fun c hc => ?_
  have h := List.all_eq_true.mp h1 c hc
  rcases Bool.eq_false_or_eq_true (isCode c) with hi | hi
  · exact h2 c (List.mem_filter.mpr ⟨hc, hi⟩)
  · simpa [hi] using h
set_option maxRecDepth 65536 in
theorem w_c0 : (Jvm.Cond.code x code maxLocals ret).before args0 about1 = true := code_word (m := ⟨1, 5⟩) (meth := k1m5) (c := k1c5) (by decide +kernel) rfl rfl rfl (by decide +kernel)
set_option maxRecDepth 65536 in
theorem w_c1 : (Jvm.Cond.code ({ cls := "com/example/meerkat/meerkat/metrics/ExpositionSamplePinLaw", name := "mk", desc := "(II)Ljava/lang/String;" } : Jvm.MethodName) method_2_code (4 : Nat) (Option.some (Jvm.ClassFile.FieldType.object "java/lang/String"))).before args0 about1 = true := code_word (m := ⟨1, 1⟩) (meth := k1m1) (c := k1c1) (by decide +kernel) rfl rfl rfl (by decide +kernel)
set_option maxRecDepth 65536 in
theorem w_c2 : (Jvm.Cond.code ({ cls := "java/lang/String", name := "<init>", desc := "([C)V" } : Jvm.MethodName) jdk_42_method_3_code (2 : Nat) (Option.none : Option Jvm.ClassFile.FieldType)).before args0 about1 = true := code_word (m := ⟨7, 1⟩) (meth := k7m1) (c := k7c1) (by decide +kernel) rfl rfl rfl (by decide +kernel)
set_option maxRecDepth 65536 in
theorem w_c3 : (Jvm.Cond.code ({ cls := "java/lang/String", name := "<init>", desc := "([CIILjava/lang/Void;)V" } : Jvm.MethodName) jdk_42_method_149_code (6 : Nat) (Option.none : Option Jvm.ClassFile.FieldType)).before args0 about1 = true := code_word (m := ⟨7, 7⟩) (meth := k7m7) (c := k7c7) (by decide +kernel) rfl rfl rfl (by decide +kernel)
set_option maxRecDepth 65536 in
theorem w_c4 : (Jvm.Cond.code ({ cls := "java/lang/Object", name := "<init>", desc := "()V" } : Jvm.MethodName) object_method_1_code (1 : Nat) (Option.none : Option Jvm.ClassFile.FieldType)).before args0 about1 = true := code_word (m := ⟨0, 0⟩) (meth := k0m0) (c := k0c0) (by decide +kernel) rfl rfl rfl (by decide +kernel)
set_option maxRecDepth 65536 in
theorem w_c5 : (Jvm.Cond.code ({ cls := "java/lang/StringUTF16", name := "compress", desc := "([CII)[B" } : Jvm.MethodName) jdk_52_method_16_code (6 : Nat) (Option.some (Jvm.ClassFile.FieldType.array Jvm.ClassFile.FieldType.byte))).before args0 about1 = true := code_word (m := ⟨8, 8⟩) (meth := k8m8) (c := k8c8) (by decide +kernel) rfl rfl rfl (by decide +kernel)
set_option maxRecDepth 65536 in
theorem w_c6 : (Jvm.Cond.code ({ cls := "java/lang/StringUTF16", name := "compress", desc := "([CI[BII)I" } : Jvm.MethodName) jdk_52_method_21_code (7 : Nat) (Option.some Jvm.ClassFile.FieldType.int)).before args0 about1 = true := code_word (m := ⟨8, 9⟩) (meth := k8m9) (c := k8c9) (by decide +kernel) rfl rfl rfl (by decide +kernel)
set_option maxRecDepth 65536 in
theorem w_c7 : (Jvm.Cond.code ({ cls := "java/lang/StringUTF16", name := "coderFromArrayLen", desc := "([BI)B" } : Jvm.MethodName) jdk_52_method_15_code (2 : Nat) (Option.some Jvm.ClassFile.FieldType.byte)).before args0 about1 = true := code_word (m := ⟨8, 7⟩) (meth := k8m7) (c := k8c7) (by decide +kernel) rfl rfl rfl (by decide +kernel)
set_option maxRecDepth 65536 in
theorem w_c8 : (Jvm.Cond.code ({ cls := "com/example/meerkat/meerkat/metrics/Exposition", name := "<init>", desc := "()V" } : Jvm.MethodName) prog_10_method_1_code (1 : Nat) (Option.none : Option Jvm.ClassFile.FieldType)).before args0 about1 = true := code_word (m := ⟨9, 0⟩) (meth := k9m0) (c := k9c0) (by decide +kernel) rfl rfl rfl (by decide +kernel)
set_option maxRecDepth 65536 in
theorem w_c9 : (Jvm.Cond.code ({ cls := "java/lang/StringBuilder", name := "<init>", desc := "()V" } : Jvm.MethodName) jdk_67_method_1_code (1 : Nat) (Option.none : Option Jvm.ClassFile.FieldType)).before args0 about1 = true := code_word (m := ⟨12, 0⟩) (meth := k12m0) (c := k12c0) (by decide +kernel) rfl rfl rfl (by decide +kernel)
set_option maxRecDepth 65536 in
theorem w_c10 : (Jvm.Cond.code ({ cls := "java/lang/AbstractStringBuilder", name := "<init>", desc := "(I)V" } : Jvm.MethodName) jdk_68_method_2_code (2 : Nat) (Option.none : Option Jvm.ClassFile.FieldType)).before args0 about1 = true := code_word (m := ⟨11, 1⟩) (meth := k11m1) (c := k11c1) (by decide +kernel) rfl rfl rfl (by decide +kernel)
set_option maxRecDepth 65536 in
theorem w_c11 : (Jvm.Cond.code ({ cls := "com/example/meerkat/meerkat/metrics/Exposition", name := "sample", desc := "(Ljava/lang/String;Ljava/lang/String;Ljava/lang/String;)V" } : Jvm.MethodName) prog_10_method_3_code (4 : Nat) (Option.none : Option Jvm.ClassFile.FieldType)).before args0 about1 = true := code_word (m := ⟨9, 1⟩) (meth := k9m1) (c := k9c1) (by decide +kernel) rfl rfl rfl (by decide +kernel)
set_option maxRecDepth 65536 in
theorem w_c12 : (Jvm.Cond.code ({ cls := "java/lang/StringBuilder", name := "append", desc := "(Ljava/lang/String;)Ljava/lang/StringBuilder;" } : Jvm.MethodName) jdk_67_method_7_code (2 : Nat) (Option.some (Jvm.ClassFile.FieldType.object "java/lang/StringBuilder"))).before args0 about1 = true := code_word (m := ⟨12, 1⟩) (meth := k12m1) (c := k12c1) (by decide +kernel) rfl rfl rfl (by decide +kernel)
set_option maxRecDepth 65536 in
theorem w_c13 : (Jvm.Cond.code ({ cls := "java/lang/AbstractStringBuilder", name := "append", desc := "(Ljava/lang/String;)Ljava/lang/AbstractStringBuilder;" } : Jvm.MethodName) jdk_68_method_22_code (3 : Nat) (Option.some (Jvm.ClassFile.FieldType.object "java/lang/AbstractStringBuilder"))).before args0 about1 = true := code_word (m := ⟨11, 6⟩) (meth := k11m6) (c := k11c6) (by decide +kernel) rfl rfl rfl (by decide +kernel)
set_option maxRecDepth 65536 in
theorem w_c14 : (Jvm.Cond.code ({ cls := "java/lang/String", name := "length", desc := "()I" } : Jvm.MethodName) jdk_42_method_54_code (1 : Nat) (Option.some Jvm.ClassFile.FieldType.int)).before args0 about1 = true := code_word (m := ⟨7, 3⟩) (meth := k7m3) (c := k7c3) (by decide +kernel) rfl rfl rfl (by decide +kernel)
set_option maxRecDepth 65536 in
theorem w_c15 : (Jvm.Cond.code ({ cls := "java/lang/String", name := "coder", desc := "()B" } : Jvm.MethodName) jdk_42_method_152_code (1 : Nat) (Option.some Jvm.ClassFile.FieldType.byte)).before args0 about1 = true := code_word (m := ⟨7, 9⟩) (meth := k7m9) (c := k7c9) (by decide +kernel) rfl rfl rfl (by decide +kernel)
set_option maxRecDepth 65536 in
theorem w_c16 : (Jvm.Cond.code ({ cls := "java/lang/AbstractStringBuilder", name := "ensureCapacityInternal", desc := "(I)V" } : Jvm.MethodName) jdk_68_method_9_code (3 : Nat) (Option.none : Option Jvm.ClassFile.FieldType)).before args0 about1 = true := code_word (m := ⟨11, 3⟩) (meth := k11m3) (c := k11c3) (by decide +kernel) rfl rfl rfl (by decide +kernel)
set_option maxRecDepth 65536 in
theorem w_c17 : (Jvm.Cond.code ({ cls := "java/lang/AbstractStringBuilder", name := "putStringAt", desc := "(ILjava/lang/String;)V" } : Jvm.MethodName) jdk_68_method_73_code (3 : Nat) (Option.none : Option Jvm.ClassFile.FieldType)).before args0 about1 = true := code_word (m := ⟨11, 11⟩) (meth := k11m11) (c := k11c11) (by decide +kernel) rfl rfl rfl (by decide +kernel)
set_option maxRecDepth 65536 in
theorem w_c18 : (Jvm.Cond.code ({ cls := "java/lang/AbstractStringBuilder", name := "inflateIfNeededFor", desc := "(Ljava/lang/String;)V" } : Jvm.MethodName) jdk_68_method_71_code (2 : Nat) (Option.none : Option Jvm.ClassFile.FieldType)).before args0 about1 = true := code_word (m := ⟨11, 10⟩) (meth := k11m10) (c := k11c10) (by decide +kernel) rfl rfl rfl (by decide +kernel)
set_option maxRecDepth 65536 in
theorem w_c19 : (Jvm.Cond.code ({ cls := "java/lang/String", name := "getBytes", desc := "([BIB)V" } : Jvm.MethodName) jdk_42_method_147_code (4 : Nat) (Option.none : Option Jvm.ClassFile.FieldType)).before args0 about1 = true := code_word (m := ⟨7, 6⟩) (meth := k7m6) (c := k7c6) (by decide +kernel) rfl rfl rfl (by decide +kernel)
set_option maxRecDepth 65536 in
theorem w_c20 : (Jvm.Cond.code ({ cls := "java/lang/String", name := "isEmpty", desc := "()Z" } : Jvm.MethodName) jdk_42_method_55_code (1 : Nat) (Option.some Jvm.ClassFile.FieldType.boolean)).before args0 about1 = true := code_word (m := ⟨7, 4⟩) (meth := k7m4) (c := k7c4) (by decide +kernel) rfl rfl rfl (by decide +kernel)
set_option maxRecDepth 65536 in
theorem w_c21 : (Jvm.Cond.code ({ cls := "java/lang/StringBuilder", name := "append", desc := "(C)Ljava/lang/StringBuilder;" } : Jvm.MethodName) jdk_67_method_14_code (2 : Nat) (Option.some (Jvm.ClassFile.FieldType.object "java/lang/StringBuilder"))).before args0 about1 = true := code_word (m := ⟨12, 2⟩) (meth := k12m2) (c := k12c2) (by decide +kernel) rfl rfl rfl (by decide +kernel)
set_option maxRecDepth 65536 in
theorem w_c22 : (Jvm.Cond.code ({ cls := "java/lang/AbstractStringBuilder", name := "append", desc := "(C)Ljava/lang/AbstractStringBuilder;" } : Jvm.MethodName) jdk_68_method_31_code (2 : Nat) (Option.some (Jvm.ClassFile.FieldType.object "java/lang/AbstractStringBuilder"))).before args0 about1 = true := code_word (m := ⟨11, 7⟩) (meth := k11m7) (c := k11c7) (by decide +kernel) rfl rfl rfl (by decide +kernel)
set_option maxRecDepth 65536 in
theorem w_c23 : (Jvm.Cond.code ({ cls := "java/lang/AbstractStringBuilder", name := "isLatin1", desc := "()Z" } : Jvm.MethodName) jdk_68_method_68_code (1 : Nat) (Option.some Jvm.ClassFile.FieldType.boolean)).before args0 about1 = true := code_word (m := ⟨11, 9⟩) (meth := k11m9) (c := k11c9) (by decide +kernel) rfl rfl rfl (by decide +kernel)
set_option maxRecDepth 65536 in
theorem w_c24 : (Jvm.Cond.code ({ cls := "java/lang/StringLatin1", name := "canEncode", desc := "(C)Z" } : Jvm.MethodName) jdk_43_method_3_code (1 : Nat) (Option.some Jvm.ClassFile.FieldType.boolean)).before args0 about1 = true := code_word (m := ⟨14, 2⟩) (meth := k14m2) (c := k14c2) (by decide +kernel) rfl rfl rfl (by decide +kernel)
set_option maxRecDepth 65536 in
theorem w_c25 : (Jvm.Cond.code ({ cls := "com/example/meerkat/meerkat/metrics/Exposition", name := "text", desc := "()Ljava/lang/String;" } : Jvm.MethodName) prog_10_method_4_code (1 : Nat) (Option.some (Jvm.ClassFile.FieldType.object "java/lang/String"))).before args0 about1 = true := code_word (m := ⟨9, 2⟩) (meth := k9m2) (c := k9c2) (by decide +kernel) rfl rfl rfl (by decide +kernel)
set_option maxRecDepth 65536 in
theorem w_c26 : (Jvm.Cond.code ({ cls := "java/lang/StringBuilder", name := "toString", desc := "()Ljava/lang/String;" } : Jvm.MethodName) jdk_67_method_42_code (1 : Nat) (Option.some (Jvm.ClassFile.FieldType.object "java/lang/String"))).before args0 about1 = true := code_word (m := ⟨12, 3⟩) (meth := k12m3) (c := k12c3) (by decide +kernel) rfl rfl rfl (by decide +kernel)
set_option maxRecDepth 65536 in
theorem w_c27 : (Jvm.Cond.code ({ cls := "java/lang/String", name := "<init>", desc := "(Ljava/lang/StringBuilder;)V" } : Jvm.MethodName) jdk_42_method_53_code (2 : Nat) (Option.none : Option Jvm.ClassFile.FieldType)).before args0 about1 = true := code_word (m := ⟨7, 2⟩) (meth := k7m2) (c := k7c2) (by decide +kernel) rfl rfl rfl (by decide +kernel)
set_option maxRecDepth 65536 in
theorem w_c28 : (Jvm.Cond.code ({ cls := "java/lang/String", name := "<init>", desc := "(Ljava/lang/AbstractStringBuilder;Ljava/lang/Void;)V" } : Jvm.MethodName) jdk_42_method_150_code (5 : Nat) (Option.none : Option Jvm.ClassFile.FieldType)).before args0 about1 = true := code_word (m := ⟨7, 8⟩) (meth := k7m8) (c := k7c8) (by decide +kernel) rfl rfl rfl (by decide +kernel)
set_option maxRecDepth 65536 in
theorem w_c29 : (Jvm.Cond.code ({ cls := "java/lang/AbstractStringBuilder", name := "getValue", desc := "()[B" } : Jvm.MethodName) jdk_68_method_64_code (1 : Nat) (Option.some (Jvm.ClassFile.FieldType.array Jvm.ClassFile.FieldType.byte))).before args0 about1 = true := code_word (m := ⟨11, 8⟩) (meth := k11m8) (c := k11c8) (by decide +kernel) rfl rfl rfl (by decide +kernel)
set_option maxRecDepth 65536 in
theorem w_c30 : (Jvm.Cond.code ({ cls := "java/lang/StringBuilder", name := "length", desc := "()I" } : Jvm.MethodName) jdk_67_method_93_code (1 : Nat) (Option.some Jvm.ClassFile.FieldType.int)).before args0 about1 = true := code_word (m := ⟨12, 4⟩) (meth := k12m4) (c := k12c4) (by decide +kernel) rfl rfl rfl (by decide +kernel)
set_option maxRecDepth 65536 in
theorem w_c31 : (Jvm.Cond.code ({ cls := "java/lang/AbstractStringBuilder", name := "length", desc := "()I" } : Jvm.MethodName) jdk_68_method_6_code (1 : Nat) (Option.some Jvm.ClassFile.FieldType.int)).before args0 about1 = true := code_word (m := ⟨11, 2⟩) (meth := k11m2) (c := k11c2) (by decide +kernel) rfl rfl rfl (by decide +kernel)
set_option maxRecDepth 65536 in
theorem w_c32 : (Jvm.Cond.code ({ cls := "java/util/Arrays", name := "copyOfRange", desc := "([BII)[B" } : Jvm.MethodName) jdk_65_method_132_code (3 : Nat) (Option.some (Jvm.ClassFile.FieldType.array Jvm.ClassFile.FieldType.byte))).before args0 about1 = true := code_word (m := ⟨15, 3⟩) (meth := k15m3) (c := k15c3) (by decide +kernel) rfl rfl rfl (by decide +kernel)
set_option maxRecDepth 65536 in
theorem w_c33 : (Jvm.Cond.code ({ cls := "java/util/Arrays", name := "copyOfRangeByte", desc := "([BII)[B" } : Jvm.MethodName) jdk_65_method_133_code (5 : Nat) (Option.some (Jvm.ClassFile.FieldType.array Jvm.ClassFile.FieldType.byte))).before args0 about1 = true := code_word (m := ⟨15, 4⟩) (meth := k15m4) (c := k15c4) (by decide +kernel) rfl rfl rfl (by decide +kernel)
set_option maxRecDepth 65536 in
theorem w_c34 : (Jvm.Cond.code ({ cls := "java/util/Arrays", name := "checkLength", desc := "(II)V" } : Jvm.MethodName) jdk_65_method_131_code (2 : Nat) (Option.none : Option Jvm.ClassFile.FieldType)).before args0 about1 = true := code_word (m := ⟨15, 2⟩) (meth := k15m2) (c := k15c2) (by decide +kernel) rfl rfl rfl (by decide +kernel)
set_option maxRecDepth 65536 in
theorem w_c35 : (Jvm.Cond.code ({ cls := "java/lang/Math", name := "min", desc := "(II)I" } : Jvm.MethodName) jdk_29_method_69_code (2 : Nat) (Option.some Jvm.ClassFile.FieldType.int)).before args0 about1 = true := code_word (m := ⟨16, 2⟩) (meth := k16m2) (c := k16c2) (by decide +kernel) rfl rfl rfl (by decide +kernel)
set_option maxRecDepth 65536 in
theorem w_c36 : (Jvm.Cond.code ({ cls := "com/example/meerkat/meerkat/metrics/ExpositionSamplePinLaw", name := "len", desc := "(Ljava/lang/String;Ljava/lang/String;Ljava/lang/String;)I" } : Jvm.MethodName) method_4_code (3 : Nat) (Option.some Jvm.ClassFile.FieldType.int)).before args0 about1 = true := code_word (m := ⟨1, 3⟩) (meth := k1m3) (c := k1c3) (by decide +kernel) rfl rfl rfl (by decide +kernel)
set_option maxRecDepth 65536 in
theorem w_c37 : (Jvm.Cond.code ({ cls := "com/example/meerkat/meerkat/metrics/ExpositionSamplePinLaw", name := "checkSample", desc := "(Ljava/lang/String;ILjava/lang/String;Ljava/lang/String;Ljava/lang/String;)Z" } : Jvm.MethodName) method_5_code (6 : Nat) (Option.some Jvm.ClassFile.FieldType.boolean)).before args0 about1 = true := code_word (m := ⟨1, 4⟩) (meth := k1m4) (c := k1c4) (by decide +kernel) rfl rfl rfl (by decide +kernel)
set_option maxRecDepth 65536 in
theorem w_c38 : (Jvm.Cond.code ({ cls := "com/example/meerkat/meerkat/metrics/ExpositionSamplePinLaw", name := "eq", desc := "(Ljava/lang/String;ILjava/lang/String;)Z" } : Jvm.MethodName) method_3_code (3 : Nat) (Option.some Jvm.ClassFile.FieldType.boolean)).before args0 about1 = true := code_word (m := ⟨1, 2⟩) (meth := k1m2) (c := k1c2) (by decide +kernel) rfl rfl rfl (by decide +kernel)
set_option maxRecDepth 65536 in
theorem w_c39 : (Jvm.Cond.code ({ cls := "java/lang/String", name := "charAt", desc := "(I)C" } : Jvm.MethodName) jdk_42_method_56_code (2 : Nat) (Option.some Jvm.ClassFile.FieldType.char)).before args0 about1 = true := code_word (m := ⟨7, 5⟩) (meth := k7m5) (c := k7c5) (by decide +kernel) rfl rfl rfl (by decide +kernel)
set_option maxRecDepth 65536 in
theorem w_c40 : (Jvm.Cond.code ({ cls := "java/lang/String", name := "isLatin1", desc := "()Z" } : Jvm.MethodName) jdk_42_method_154_code (1 : Nat) (Option.some Jvm.ClassFile.FieldType.boolean)).before args0 about1 = true := code_word (m := ⟨7, 10⟩) (meth := k7m10) (c := k7c10) (by decide +kernel) rfl rfl rfl (by decide +kernel)
set_option maxRecDepth 65536 in
theorem w_c41 : (Jvm.Cond.code ({ cls := "java/lang/StringLatin1", name := "charAt", desc := "([BI)C" } : Jvm.MethodName) jdk_43_method_2_code (2 : Nat) (Option.some Jvm.ClassFile.FieldType.char)).before args0 about1 = true := code_word (m := ⟨14, 1⟩) (meth := k14m1) (c := k14c1) (by decide +kernel) rfl rfl rfl (by decide +kernel)
set_option maxRecDepth 65536 in
theorem w_c42 : (Jvm.Cond.code ({ cls := "java/lang/String", name := "checkIndex", desc := "(II)V" } : Jvm.MethodName) jdk_42_method_155_code (2 : Nat) (Option.none : Option Jvm.ClassFile.FieldType)).before args0 about1 = true := code_word (m := ⟨7, 11⟩) (meth := k7m11) (c := k7c11) (by decide +kernel) rfl rfl rfl (by decide +kernel)
set_option maxRecDepth 65536 in
theorem w_c43 : (Jvm.Cond.code ({ cls := "jdk/internal/util/Preconditions", name := "checkIndex", desc := "(IILjava/util/function/BiFunction;)I" } : Jvm.MethodName) jdk_41_method_11_code (3 : Nat) (Option.some Jvm.ClassFile.FieldType.int)).before args0 about1 = true := code_word (m := ⟨17, 1⟩) (meth := k17m1) (c := k17c1) (by decide +kernel) rfl rfl rfl (by decide +kernel)
set_option maxRecDepth 65536 in
theorem w_c44 : (Jvm.Cond.code ({ cls := "java/lang/StringUTF16", name := "toBytes", desc := "([CII)[B" } : Jvm.MethodName) jdk_52_method_14_code (5 : Nat) (Option.some (Jvm.ClassFile.FieldType.array Jvm.ClassFile.FieldType.byte))).before args0 about1 = true := code_word (m := ⟨8, 6⟩) (meth := k8m6) (c := k8c6) (by decide +kernel) rfl rfl rfl (by decide +kernel)
set_option maxRecDepth 65536 in
theorem w_c45 : (Jvm.Cond.code ({ cls := "java/lang/StringUTF16", name := "newBytesFor", desc := "(I)[B" } : Jvm.MethodName) jdk_52_method_2_code (1 : Nat) (Option.some (Jvm.ClassFile.FieldType.array Jvm.ClassFile.FieldType.byte))).before args0 about1 = true := code_word (m := ⟨8, 1⟩) (meth := k8m1) (c := k8c1) (by decide +kernel) rfl rfl rfl (by decide +kernel)
set_option maxRecDepth 65536 in
theorem w_c46 : (Jvm.Cond.code ({ cls := "java/lang/StringUTF16", name := "newBytesLength", desc := "(I)I" } : Jvm.MethodName) jdk_52_method_3_code (1 : Nat) (Option.some Jvm.ClassFile.FieldType.int)).before args0 about1 = true := code_word (m := ⟨8, 2⟩) (meth := k8m2) (c := k8c2) (by decide +kernel) rfl rfl rfl (by decide +kernel)
set_option maxRecDepth 65536 in
theorem w_c47 : (Jvm.Cond.code ({ cls := "java/lang/StringUTF16", name := "putChar", desc := "([BII)V" } : Jvm.MethodName) jdk_52_method_4_code (3 : Nat) (Option.none : Option Jvm.ClassFile.FieldType)).before args0 about1 = true := code_word (m := ⟨8, 3⟩) (meth := k8m3) (c := k8c3) (by decide +kernel) rfl rfl rfl (by decide +kernel)
set_option maxRecDepth 65536 in
theorem w_c48 : (Jvm.Cond.code ({ cls := "java/lang/StringUTF16", name := "getChar", desc := "([BI)C" } : Jvm.MethodName) jdk_52_method_5_code (2 : Nat) (Option.some Jvm.ClassFile.FieldType.char)).before args0 about1 = true := code_word (m := ⟨8, 4⟩) (meth := k8m4) (c := k8c4) (by decide +kernel) rfl rfl rfl (by decide +kernel)
set_option maxRecDepth 65536 in
theorem w_c49 : (Jvm.Cond.code ({ cls := "java/lang/AbstractStringBuilder", name := "inflate", desc := "()V" } : Jvm.MethodName) jdk_68_method_11_code (2 : Nat) (Option.none : Option Jvm.ClassFile.FieldType)).before args0 about1 = true := code_word (m := ⟨11, 5⟩) (meth := k11m5) (c := k11c5) (by decide +kernel) rfl rfl rfl (by decide +kernel)
set_option maxRecDepth 65536 in
theorem w_c50 : (Jvm.Cond.code ({ cls := "java/lang/StringLatin1", name := "inflate", desc := "([BI[BII)V" } : Jvm.MethodName) jdk_43_method_50_code (5 : Nat) (Option.none : Option Jvm.ClassFile.FieldType)).before args0 about1 = true := code_word (m := ⟨14, 3⟩) (meth := k14m3) (c := k14c3) (by decide +kernel) rfl rfl rfl (by decide +kernel)
set_option maxRecDepth 65536 in
theorem w_c51 : (Jvm.Cond.code ({ cls := "java/lang/StringUTF16", name := "inflate", desc := "([BI[BII)V" } : Jvm.MethodName) jdk_52_method_86_code (6 : Nat) (Option.none : Option Jvm.ClassFile.FieldType)).before args0 about1 = true := code_word (m := ⟨8, 12⟩) (meth := k8m12) (c := k8c12) (by decide +kernel) rfl rfl rfl (by decide +kernel)
set_option maxRecDepth 65536 in
theorem w_c52 : (Jvm.Cond.code ({ cls := "java/lang/StringUTF16", name := "checkBoundsOffCount", desc := "(II[B)V" } : Jvm.MethodName) jdk_52_method_94_code (3 : Nat) (Option.none : Option Jvm.ClassFile.FieldType)).before args0 about1 = true := code_word (m := ⟨8, 14⟩) (meth := k8m14) (c := k8c14) (by decide +kernel) rfl rfl rfl (by decide +kernel)
set_option maxRecDepth 65536 in
theorem w_c53 : (Jvm.Cond.code ({ cls := "java/lang/StringUTF16", name := "length", desc := "([B)I" } : Jvm.MethodName) jdk_52_method_6_code (1 : Nat) (Option.some Jvm.ClassFile.FieldType.int)).before args0 about1 = true := code_word (m := ⟨8, 5⟩) (meth := k8m5) (c := k8c5) (by decide +kernel) rfl rfl rfl (by decide +kernel)
set_option maxRecDepth 65536 in
theorem w_c54 : (Jvm.Cond.code ({ cls := "java/lang/String", name := "checkBoundsOffCount", desc := "(III)I" } : Jvm.MethodName) jdk_42_method_157_code (3 : Nat) (Option.some Jvm.ClassFile.FieldType.int)).before args0 about1 = true := code_word (m := ⟨7, 12⟩) (meth := k7m12) (c := k7c12) (by decide +kernel) rfl rfl rfl (by decide +kernel)
set_option maxRecDepth 65536 in
theorem w_c55 : (Jvm.Cond.code ({ cls := "jdk/internal/util/Preconditions", name := "checkFromIndexSize", desc := "(IIILjava/util/function/BiFunction;)I" } : Jvm.MethodName) jdk_41_method_13_code (4 : Nat) (Option.some Jvm.ClassFile.FieldType.int)).before args0 about1 = true := code_word (m := ⟨17, 2⟩) (meth := k17m2) (c := k17c2) (by decide +kernel) rfl rfl rfl (by decide +kernel)
set_option maxRecDepth 65536 in
theorem w_c56 : (Jvm.Cond.code ({ cls := "java/lang/StringUTF16", name := "putCharSB", desc := "([BII)V" } : Jvm.MethodName) jdk_52_method_71_code (3 : Nat) (Option.none : Option Jvm.ClassFile.FieldType)).before args0 about1 = true := code_word (m := ⟨8, 10⟩) (meth := k8m10) (c := k8c10) (by decide +kernel) rfl rfl rfl (by decide +kernel)
set_option maxRecDepth 65536 in
theorem w_c57 : (Jvm.Cond.code ({ cls := "java/lang/StringUTF16", name := "checkIndex", desc := "(I[B)V" } : Jvm.MethodName) jdk_52_method_91_code (2 : Nat) (Option.none : Option Jvm.ClassFile.FieldType)).before args0 about1 = true := code_word (m := ⟨8, 13⟩) (meth := k8m13) (c := k8c13) (by decide +kernel) rfl rfl rfl (by decide +kernel)
set_option maxRecDepth 65536 in
theorem w_c58 : (Jvm.Cond.code ({ cls := "java/lang/StringUTF16", name := "charAt", desc := "([BI)C" } : Jvm.MethodName) jdk_52_method_83_code (2 : Nat) (Option.some Jvm.ClassFile.FieldType.char)).before args0 about1 = true := code_word (m := ⟨8, 11⟩) (meth := k8m11) (c := k8c11) (by decide +kernel) rfl rfl rfl (by decide +kernel)
set_option maxRecDepth 65536 in
theorem w_c59 : (Jvm.Cond.code ({ cls := "java/lang/AbstractStringBuilder", name := "newCapacity", desc := "(I)I" } : Jvm.MethodName) jdk_68_method_10_code (6 : Nat) (Option.some Jvm.ClassFile.FieldType.int)).before args0 about1 = true := code_word (m := ⟨11, 4⟩) (meth := k11m4) (c := k11c4) (by decide +kernel) rfl rfl rfl (by decide +kernel)
set_option maxRecDepth 65536 in
theorem w_c60 : (Jvm.Cond.code ({ cls := "jdk/internal/util/ArraysSupport", name := "newLength", desc := "(III)I" } : Jvm.MethodName) jdk_48_method_27_code (4 : Nat) (Option.some Jvm.ClassFile.FieldType.int)).before args0 about1 = true := code_word (m := ⟨19, 1⟩) (meth := k19m1) (c := k19c1) (by decide +kernel) rfl rfl rfl (by decide +kernel)
set_option maxRecDepth 65536 in
theorem w_c61 : (Jvm.Cond.code ({ cls := "java/lang/Math", name := "max", desc := "(II)I" } : Jvm.MethodName) jdk_29_method_65_code (2 : Nat) (Option.some Jvm.ClassFile.FieldType.int)).before args0 about1 = true := code_word (m := ⟨16, 1⟩) (meth := k16m1) (c := k16c1) (by decide +kernel) rfl rfl rfl (by decide +kernel)
set_option maxRecDepth 65536 in
theorem w_c62 : (Jvm.Cond.code ({ cls := "java/util/Arrays", name := "copyOf", desc := "([BI)[B" } : Jvm.MethodName) jdk_65_method_121_code (3 : Nat) (Option.some (Jvm.ClassFile.FieldType.array Jvm.ClassFile.FieldType.byte))).before args0 about1 = true := code_word (m := ⟨15, 1⟩) (meth := k15m1) (c := k15c1) (by decide +kernel) rfl rfl rfl (by decide +kernel)
def codes1 : List Jvm.Cond := [Jvm.Cond.code x code maxLocals ret, Jvm.Cond.code ({ cls := "com/example/meerkat/meerkat/metrics/ExpositionSamplePinLaw", name := "mk", desc := "(II)Ljava/lang/String;" } : Jvm.MethodName) method_2_code (4 : Nat) (Option.some (Jvm.ClassFile.FieldType.object "java/lang/String")), Jvm.Cond.code ({ cls := "java/lang/String", name := "<init>", desc := "([C)V" } : Jvm.MethodName) jdk_42_method_3_code (2 : Nat) (Option.none : Option Jvm.ClassFile.FieldType), Jvm.Cond.code ({ cls := "java/lang/String", name := "<init>", desc := "([CIILjava/lang/Void;)V" } : Jvm.MethodName) jdk_42_method_149_code (6 : Nat) (Option.none : Option Jvm.ClassFile.FieldType), Jvm.Cond.code ({ cls := "java/lang/Object", name := "<init>", desc := "()V" } : Jvm.MethodName) object_method_1_code (1 : Nat) (Option.none : Option Jvm.ClassFile.FieldType), Jvm.Cond.code ({ cls := "java/lang/StringUTF16", name := "compress", desc := "([CII)[B" } : Jvm.MethodName) jdk_52_method_16_code (6 : Nat) (Option.some (Jvm.ClassFile.FieldType.array Jvm.ClassFile.FieldType.byte)), Jvm.Cond.code ({ cls := "java/lang/StringUTF16", name := "compress", desc := "([CI[BII)I" } : Jvm.MethodName) jdk_52_method_21_code (7 : Nat) (Option.some Jvm.ClassFile.FieldType.int), Jvm.Cond.code ({ cls := "java/lang/StringUTF16", name := "coderFromArrayLen", desc := "([BI)B" } : Jvm.MethodName) jdk_52_method_15_code (2 : Nat) (Option.some Jvm.ClassFile.FieldType.byte), Jvm.Cond.code ({ cls := "com/example/meerkat/meerkat/metrics/Exposition", name := "<init>", desc := "()V" } : Jvm.MethodName) prog_10_method_1_code (1 : Nat) (Option.none : Option Jvm.ClassFile.FieldType), Jvm.Cond.code ({ cls := "java/lang/StringBuilder", name := "<init>", desc := "()V" } : Jvm.MethodName) jdk_67_method_1_code (1 : Nat) (Option.none : Option Jvm.ClassFile.FieldType), Jvm.Cond.code ({ cls := "java/lang/AbstractStringBuilder", name := "<init>", desc := "(I)V" } : Jvm.MethodName) jdk_68_method_2_code (2 : Nat) (Option.none : Option Jvm.ClassFile.FieldType), Jvm.Cond.code ({ cls := "com/example/meerkat/meerkat/metrics/Exposition", name := "sample", desc := "(Ljava/lang/String;Ljava/lang/String;Ljava/lang/String;)V" } : Jvm.MethodName) prog_10_method_3_code (4 : Nat) (Option.none : Option Jvm.ClassFile.FieldType), Jvm.Cond.code ({ cls := "java/lang/StringBuilder", name := "append", desc := "(Ljava/lang/String;)Ljava/lang/StringBuilder;" } : Jvm.MethodName) jdk_67_method_7_code (2 : Nat) (Option.some (Jvm.ClassFile.FieldType.object "java/lang/StringBuilder")), Jvm.Cond.code ({ cls := "java/lang/AbstractStringBuilder", name := "append", desc := "(Ljava/lang/String;)Ljava/lang/AbstractStringBuilder;" } : Jvm.MethodName) jdk_68_method_22_code (3 : Nat) (Option.some (Jvm.ClassFile.FieldType.object "java/lang/AbstractStringBuilder")), Jvm.Cond.code ({ cls := "java/lang/String", name := "length", desc := "()I" } : Jvm.MethodName) jdk_42_method_54_code (1 : Nat) (Option.some Jvm.ClassFile.FieldType.int), Jvm.Cond.code ({ cls := "java/lang/String", name := "coder", desc := "()B" } : Jvm.MethodName) jdk_42_method_152_code (1 : Nat) (Option.some Jvm.ClassFile.FieldType.byte), Jvm.Cond.code ({ cls := "java/lang/AbstractStringBuilder", name := "ensureCapacityInternal", desc := "(I)V" } : Jvm.MethodName) jdk_68_method_9_code (3 : Nat) (Option.none : Option Jvm.ClassFile.FieldType), Jvm.Cond.code ({ cls := "java/lang/AbstractStringBuilder", name := "putStringAt", desc := "(ILjava/lang/String;)V" } : Jvm.MethodName) jdk_68_method_73_code (3 : Nat) (Option.none : Option Jvm.ClassFile.FieldType), Jvm.Cond.code ({ cls := "java/lang/AbstractStringBuilder", name := "inflateIfNeededFor", desc := "(Ljava/lang/String;)V" } : Jvm.MethodName) jdk_68_method_71_code (2 : Nat) (Option.none : Option Jvm.ClassFile.FieldType), Jvm.Cond.code ({ cls := "java/lang/String", name := "getBytes", desc := "([BIB)V" } : Jvm.MethodName) jdk_42_method_147_code (4 : Nat) (Option.none : Option Jvm.ClassFile.FieldType), Jvm.Cond.code ({ cls := "java/lang/String", name := "isEmpty", desc := "()Z" } : Jvm.MethodName) jdk_42_method_55_code (1 : Nat) (Option.some Jvm.ClassFile.FieldType.boolean), Jvm.Cond.code ({ cls := "java/lang/StringBuilder", name := "append", desc := "(C)Ljava/lang/StringBuilder;" } : Jvm.MethodName) jdk_67_method_14_code (2 : Nat) (Option.some (Jvm.ClassFile.FieldType.object "java/lang/StringBuilder")), Jvm.Cond.code ({ cls := "java/lang/AbstractStringBuilder", name := "append", desc := "(C)Ljava/lang/AbstractStringBuilder;" } : Jvm.MethodName) jdk_68_method_31_code (2 : Nat) (Option.some (Jvm.ClassFile.FieldType.object "java/lang/AbstractStringBuilder")), Jvm.Cond.code ({ cls := "java/lang/AbstractStringBuilder", name := "isLatin1", desc := "()Z" } : Jvm.MethodName) jdk_68_method_68_code (1 : Nat) (Option.some Jvm.ClassFile.FieldType.boolean), Jvm.Cond.code ({ cls := "java/lang/StringLatin1", name := "canEncode", desc := "(C)Z" } : Jvm.MethodName) jdk_43_method_3_code (1 : Nat) (Option.some Jvm.ClassFile.FieldType.boolean), Jvm.Cond.code ({ cls := "com/example/meerkat/meerkat/metrics/Exposition", name := "text", desc := "()Ljava/lang/String;" } : Jvm.MethodName) prog_10_method_4_code (1 : Nat) (Option.some (Jvm.ClassFile.FieldType.object "java/lang/String")), Jvm.Cond.code ({ cls := "java/lang/StringBuilder", name := "toString", desc := "()Ljava/lang/String;" } : Jvm.MethodName) jdk_67_method_42_code (1 : Nat) (Option.some (Jvm.ClassFile.FieldType.object "java/lang/String")), Jvm.Cond.code ({ cls := "java/lang/String", name := "<init>", desc := "(Ljava/lang/StringBuilder;)V" } : Jvm.MethodName) jdk_42_method_53_code (2 : Nat) (Option.none : Option Jvm.ClassFile.FieldType), Jvm.Cond.code ({ cls := "java/lang/String", name := "<init>", desc := "(Ljava/lang/AbstractStringBuilder;Ljava/lang/Void;)V" } : Jvm.MethodName) jdk_42_method_150_code (5 : Nat) (Option.none : Option Jvm.ClassFile.FieldType), Jvm.Cond.code ({ cls := "java/lang/AbstractStringBuilder", name := "getValue", desc := "()[B" } : Jvm.MethodName) jdk_68_method_64_code (1 : Nat) (Option.some (Jvm.ClassFile.FieldType.array Jvm.ClassFile.FieldType.byte)), Jvm.Cond.code ({ cls := "java/lang/StringBuilder", name := "length", desc := "()I" } : Jvm.MethodName) jdk_67_method_93_code (1 : Nat) (Option.some Jvm.ClassFile.FieldType.int), Jvm.Cond.code ({ cls := "java/lang/AbstractStringBuilder", name := "length", desc := "()I" } : Jvm.MethodName) jdk_68_method_6_code (1 : Nat) (Option.some Jvm.ClassFile.FieldType.int), Jvm.Cond.code ({ cls := "java/util/Arrays", name := "copyOfRange", desc := "([BII)[B" } : Jvm.MethodName) jdk_65_method_132_code (3 : Nat) (Option.some (Jvm.ClassFile.FieldType.array Jvm.ClassFile.FieldType.byte)), Jvm.Cond.code ({ cls := "java/util/Arrays", name := "copyOfRangeByte", desc := "([BII)[B" } : Jvm.MethodName) jdk_65_method_133_code (5 : Nat) (Option.some (Jvm.ClassFile.FieldType.array Jvm.ClassFile.FieldType.byte)), Jvm.Cond.code ({ cls := "java/util/Arrays", name := "checkLength", desc := "(II)V" } : Jvm.MethodName) jdk_65_method_131_code (2 : Nat) (Option.none : Option Jvm.ClassFile.FieldType), Jvm.Cond.code ({ cls := "java/lang/Math", name := "min", desc := "(II)I" } : Jvm.MethodName) jdk_29_method_69_code (2 : Nat) (Option.some Jvm.ClassFile.FieldType.int), Jvm.Cond.code ({ cls := "com/example/meerkat/meerkat/metrics/ExpositionSamplePinLaw", name := "len", desc := "(Ljava/lang/String;Ljava/lang/String;Ljava/lang/String;)I" } : Jvm.MethodName) method_4_code (3 : Nat) (Option.some Jvm.ClassFile.FieldType.int), Jvm.Cond.code ({ cls := "com/example/meerkat/meerkat/metrics/ExpositionSamplePinLaw", name := "checkSample", desc := "(Ljava/lang/String;ILjava/lang/String;Ljava/lang/String;Ljava/lang/String;)Z" } : Jvm.MethodName) method_5_code (6 : Nat) (Option.some Jvm.ClassFile.FieldType.boolean), Jvm.Cond.code ({ cls := "com/example/meerkat/meerkat/metrics/ExpositionSamplePinLaw", name := "eq", desc := "(Ljava/lang/String;ILjava/lang/String;)Z" } : Jvm.MethodName) method_3_code (3 : Nat) (Option.some Jvm.ClassFile.FieldType.boolean), Jvm.Cond.code ({ cls := "java/lang/String", name := "charAt", desc := "(I)C" } : Jvm.MethodName) jdk_42_method_56_code (2 : Nat) (Option.some Jvm.ClassFile.FieldType.char), Jvm.Cond.code ({ cls := "java/lang/String", name := "isLatin1", desc := "()Z" } : Jvm.MethodName) jdk_42_method_154_code (1 : Nat) (Option.some Jvm.ClassFile.FieldType.boolean), Jvm.Cond.code ({ cls := "java/lang/StringLatin1", name := "charAt", desc := "([BI)C" } : Jvm.MethodName) jdk_43_method_2_code (2 : Nat) (Option.some Jvm.ClassFile.FieldType.char), Jvm.Cond.code ({ cls := "java/lang/String", name := "checkIndex", desc := "(II)V" } : Jvm.MethodName) jdk_42_method_155_code (2 : Nat) (Option.none : Option Jvm.ClassFile.FieldType), Jvm.Cond.code ({ cls := "jdk/internal/util/Preconditions", name := "checkIndex", desc := "(IILjava/util/function/BiFunction;)I" } : Jvm.MethodName) jdk_41_method_11_code (3 : Nat) (Option.some Jvm.ClassFile.FieldType.int), Jvm.Cond.code ({ cls := "java/lang/StringUTF16", name := "toBytes", desc := "([CII)[B" } : Jvm.MethodName) jdk_52_method_14_code (5 : Nat) (Option.some (Jvm.ClassFile.FieldType.array Jvm.ClassFile.FieldType.byte)), Jvm.Cond.code ({ cls := "java/lang/StringUTF16", name := "newBytesFor", desc := "(I)[B" } : Jvm.MethodName) jdk_52_method_2_code (1 : Nat) (Option.some (Jvm.ClassFile.FieldType.array Jvm.ClassFile.FieldType.byte)), Jvm.Cond.code ({ cls := "java/lang/StringUTF16", name := "newBytesLength", desc := "(I)I" } : Jvm.MethodName) jdk_52_method_3_code (1 : Nat) (Option.some Jvm.ClassFile.FieldType.int), Jvm.Cond.code ({ cls := "java/lang/StringUTF16", name := "putChar", desc := "([BII)V" } : Jvm.MethodName) jdk_52_method_4_code (3 : Nat) (Option.none : Option Jvm.ClassFile.FieldType), Jvm.Cond.code ({ cls := "java/lang/StringUTF16", name := "getChar", desc := "([BI)C" } : Jvm.MethodName) jdk_52_method_5_code (2 : Nat) (Option.some Jvm.ClassFile.FieldType.char), Jvm.Cond.code ({ cls := "java/lang/AbstractStringBuilder", name := "inflate", desc := "()V" } : Jvm.MethodName) jdk_68_method_11_code (2 : Nat) (Option.none : Option Jvm.ClassFile.FieldType), Jvm.Cond.code ({ cls := "java/lang/StringLatin1", name := "inflate", desc := "([BI[BII)V" } : Jvm.MethodName) jdk_43_method_50_code (5 : Nat) (Option.none : Option Jvm.ClassFile.FieldType), Jvm.Cond.code ({ cls := "java/lang/StringUTF16", name := "inflate", desc := "([BI[BII)V" } : Jvm.MethodName) jdk_52_method_86_code (6 : Nat) (Option.none : Option Jvm.ClassFile.FieldType), Jvm.Cond.code ({ cls := "java/lang/StringUTF16", name := "checkBoundsOffCount", desc := "(II[B)V" } : Jvm.MethodName) jdk_52_method_94_code (3 : Nat) (Option.none : Option Jvm.ClassFile.FieldType), Jvm.Cond.code ({ cls := "java/lang/StringUTF16", name := "length", desc := "([B)I" } : Jvm.MethodName) jdk_52_method_6_code (1 : Nat) (Option.some Jvm.ClassFile.FieldType.int), Jvm.Cond.code ({ cls := "java/lang/String", name := "checkBoundsOffCount", desc := "(III)I" } : Jvm.MethodName) jdk_42_method_157_code (3 : Nat) (Option.some Jvm.ClassFile.FieldType.int), Jvm.Cond.code ({ cls := "jdk/internal/util/Preconditions", name := "checkFromIndexSize", desc := "(IIILjava/util/function/BiFunction;)I" } : Jvm.MethodName) jdk_41_method_13_code (4 : Nat) (Option.some Jvm.ClassFile.FieldType.int), Jvm.Cond.code ({ cls := "java/lang/StringUTF16", name := "putCharSB", desc := "([BII)V" } : Jvm.MethodName) jdk_52_method_71_code (3 : Nat) (Option.none : Option Jvm.ClassFile.FieldType), Jvm.Cond.code ({ cls := "java/lang/StringUTF16", name := "checkIndex", desc := "(I[B)V" } : Jvm.MethodName) jdk_52_method_91_code (2 : Nat) (Option.none : Option Jvm.ClassFile.FieldType), Jvm.Cond.code ({ cls := "java/lang/StringUTF16", name := "charAt", desc := "([BI)C" } : Jvm.MethodName) jdk_52_method_83_code (2 : Nat) (Option.some Jvm.ClassFile.FieldType.char), Jvm.Cond.code ({ cls := "java/lang/AbstractStringBuilder", name := "newCapacity", desc := "(I)I" } : Jvm.MethodName) jdk_68_method_10_code (6 : Nat) (Option.some Jvm.ClassFile.FieldType.int), Jvm.Cond.code ({ cls := "jdk/internal/util/ArraysSupport", name := "newLength", desc := "(III)I" } : Jvm.MethodName) jdk_48_method_27_code (4 : Nat) (Option.some Jvm.ClassFile.FieldType.int), Jvm.Cond.code ({ cls := "java/lang/Math", name := "max", desc := "(II)I" } : Jvm.MethodName) jdk_29_method_65_code (2 : Nat) (Option.some Jvm.ClassFile.FieldType.int), Jvm.Cond.code ({ cls := "java/util/Arrays", name := "copyOf", desc := "([BI)[B" } : Jvm.MethodName) jdk_65_method_121_code (3 : Nat) (Option.some (Jvm.ClassFile.FieldType.array Jvm.ClassFile.FieldType.byte))]
set_option maxRecDepth 65536 in
theorem codes_eq : words1.filter isCode = codes1 := rfl
theorem w_codes : ∀ c ∈ words1.filter isCode, c.before args0 about1 = true := by
  rw [codes_eq]
  intro c hc
  simp only [codes1, List.mem_cons, List.not_mem_nil, or_false] at hc
  rcases hc with rfl | rfl | rfl | rfl | rfl | rfl | rfl | rfl | rfl | rfl | rfl | rfl | rfl | rfl | rfl | rfl | rfl | rfl | rfl | rfl | rfl | rfl | rfl | rfl | rfl | rfl | rfl | rfl | rfl | rfl | rfl | rfl | rfl | rfl | rfl | rfl | rfl | rfl | rfl | rfl | rfl | rfl | rfl | rfl | rfl | rfl | rfl | rfl | rfl | rfl | rfl | rfl | rfl | rfl | rfl | rfl | rfl | rfl | rfl | rfl | rfl | rfl | rfl
  · exact w_c0
  · exact w_c1
  · exact w_c2
  · exact w_c3
  · exact w_c4
  · exact w_c5
  · exact w_c6
  · exact w_c7
  · exact w_c8
  · exact w_c9
  · exact w_c10
  · exact w_c11
  · exact w_c12
  · exact w_c13
  · exact w_c14
  · exact w_c15
  · exact w_c16
  · exact w_c17
  · exact w_c18
  · exact w_c19
  · exact w_c20
  · exact w_c21
  · exact w_c22
  · exact w_c23
  · exact w_c24
  · exact w_c25
  · exact w_c26
  · exact w_c27
  · exact w_c28
  · exact w_c29
  · exact w_c30
  · exact w_c31
  · exact w_c32
  · exact w_c33
  · exact w_c34
  · exact w_c35
  · exact w_c36
  · exact w_c37
  · exact w_c38
  · exact w_c39
  · exact w_c40
  · exact w_c41
  · exact w_c42
  · exact w_c43
  · exact w_c44
  · exact w_c45
  · exact w_c46
  · exact w_c47
  · exact w_c48
  · exact w_c49
  · exact w_c50
  · exact w_c51
  · exact w_c52
  · exact w_c53
  · exact w_c54
  · exact w_c55
  · exact w_c56
  · exact w_c57
  · exact w_c58
  · exact w_c59
  · exact w_c60
  · exact w_c61
  · exact w_c62
set_option maxRecDepth 65536 in
theorem w_t1 : (words1.take 24).all (fun c => isCode c || c.before args0 about1) = true := by decide +kernel
set_option maxRecDepth 65536 in
theorem w_t2 : ((words1.drop 24).take 24).all (fun c => isCode c || c.before args0 about1) = true := by decide +kernel
set_option maxRecDepth 65536 in
theorem w_t3 : (((words1.drop 24).drop 24).take 24).all (fun c => isCode c || c.before args0 about1) = true := by decide +kernel
set_option maxRecDepth 65536 in
theorem w_t4 : ((((words1.drop 24).drop 24).drop 24).take 24).all (fun c => isCode c || c.before args0 about1) = true := by decide +kernel
set_option maxRecDepth 65536 in
theorem w_t5 : (((((words1.drop 24).drop 24).drop 24).drop 24).take 24).all (fun c => isCode c || c.before args0 about1) = true := by decide +kernel
set_option maxRecDepth 65536 in
theorem w_t6 : ((((((words1.drop 24).drop 24).drop 24).drop 24).drop 24).take 24).all (fun c => isCode c || c.before args0 about1) = true := by decide +kernel
set_option maxRecDepth 65536 in
theorem w_t7 : (((((((words1.drop 24).drop 24).drop 24).drop 24).drop 24).drop 24).take 24).all (fun c => isCode c || c.before args0 about1) = true := by decide +kernel
set_option maxRecDepth 65536 in
theorem w_t8 : ((((((((words1.drop 24).drop 24).drop 24).drop 24).drop 24).drop 24).drop 24).take 24).all (fun c => isCode c || c.before args0 about1) = true := by decide +kernel
set_option maxRecDepth 65536 in
theorem w_t9 : (((((((((words1.drop 24).drop 24).drop 24).drop 24).drop 24).drop 24).drop 24).drop 24).take 24).all (fun c => isCode c || c.before args0 about1) = true := by decide +kernel
set_option maxRecDepth 65536 in
theorem w_t10 : ((((((((((words1.drop 24).drop 24).drop 24).drop 24).drop 24).drop 24).drop 24).drop 24).drop 24).take 24).all (fun c => isCode c || c.before args0 about1) = true := by decide +kernel
set_option maxRecDepth 65536 in
theorem w_t11 : (((((((((((words1.drop 24).drop 24).drop 24).drop 24).drop 24).drop 24).drop 24).drop 24).drop 24).drop 24).take 24).all (fun c => isCode c || c.before args0 about1) = true := by decide +kernel
set_option maxRecDepth 65536 in
theorem w_t12 : ((((((((((((words1.drop 24).drop 24).drop 24).drop 24).drop 24).drop 24).drop 24).drop 24).drop 24).drop 24).drop 24).take 24).all (fun c => isCode c || c.before args0 about1) = true := by decide +kernel
set_option maxRecDepth 65536 in
theorem w_t13 : ((((((((((((words1.drop 24).drop 24).drop 24).drop 24).drop 24).drop 24).drop 24).drop 24).drop 24).drop 24).drop 24).drop 24).all (fun c => isCode c || c.before args0 about1) = true := by decide +kernel
theorem w_tables : (allAtoms (Jvm.Cond.code x code maxLocals ret :: tables_1)).before args0 about1 = true := by
  rw [allAtoms_all]
  show words1.all (fun c => c.before args0 about1) = true
  refine all_split ?_ w_codes
  rw [← List.take_append_drop 24 words1, List.all_append, w_t1, ← List.take_append_drop 24 (words1.drop 24), List.all_append, w_t2, ← List.take_append_drop 24 ((words1.drop 24).drop 24), List.all_append, w_t3, ← List.take_append_drop 24 (((words1.drop 24).drop 24).drop 24), List.all_append, w_t4, ← List.take_append_drop 24 ((((words1.drop 24).drop 24).drop 24).drop 24), List.all_append, w_t5, ← List.take_append_drop 24 (((((words1.drop 24).drop 24).drop 24).drop 24).drop 24), List.all_append, w_t6, ← List.take_append_drop 24 ((((((words1.drop 24).drop 24).drop 24).drop 24).drop 24).drop 24), List.all_append, w_t7, ← List.take_append_drop 24 (((((((words1.drop 24).drop 24).drop 24).drop 24).drop 24).drop 24).drop 24), List.all_append, w_t8, ← List.take_append_drop 24 ((((((((words1.drop 24).drop 24).drop 24).drop 24).drop 24).drop 24).drop 24).drop 24), List.all_append, w_t9, ← List.take_append_drop 24 (((((((((words1.drop 24).drop 24).drop 24).drop 24).drop 24).drop 24).drop 24).drop 24).drop 24), List.all_append, w_t10, ← List.take_append_drop 24 ((((((((((words1.drop 24).drop 24).drop 24).drop 24).drop 24).drop 24).drop 24).drop 24).drop 24).drop 24), List.all_append, w_t11, ← List.take_append_drop 24 (((((((((((words1.drop 24).drop 24).drop 24).drop 24).drop 24).drop 24).drop 24).drop 24).drop 24).drop 24).drop 24), List.all_append, w_t12, w_t13]
  rfl
set_option maxRecDepth 65536 in
theorem w_rest : rest_1_c.before args0 about1 = true := by decide +kernel
set_option maxRecDepth 65536 in
theorem w_case : (Jvm.Cond.and given_1 narrow_1).before args0 about1 = true := by decide +kernel
set_option maxRecDepth 65536 in
theorem w_consts : constsHeld consts_1 about1 := Jvm.Lit.constsHeldB_iff.mp (by decide +kernel)
theorem w_applies : (headSpec (Jvm.Cond.code x code maxLocals ret :: tables_1) room_1).applies x e0.platform about1 = true :=
  (Spec.applies_iff w_frames).mpr ⟨w_running, w_runnable, w_alone, w_named, w_hears, w_ripe, w_room, w_tables⟩
theorem atStart : AtStart classFile x code maxLocals ret World_1 tables_1 room_1 Calls_1 rest_1 Pre_1 launch0 p0 e0 about1 theMethod args0 below0 :=
  ⟨lists_1, trivial, launch0.admits_env _ _ _, launch0.least_env, fairChoices_fair.cas, fairChoices_fair.clock, w_frames, w_args, w_heap, w_applies, ⟨w_consts, trivial⟩, w_rest, w_case⟩
end start1
theorem witness_1 : WitnessClaimed_1 := ⟨start1.p0, start1.e0, start1.about1, start1.theMethod, start1.args0, start1.below0, start1.atStart⟩
end Jvm.Pilot.@@N@@
