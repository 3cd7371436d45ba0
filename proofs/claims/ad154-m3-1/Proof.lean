import JvmDerived
import JvmDerived.Pilot.@@N@@Statement
import JvmDerived.Pilot.@@N@@Code
set_option linter.unusedVariables false
set_option linter.unusedSimpArgs false
namespace Jvm.Road
open Jvm Jvm.ClassFile Sem Op Lib Jvm.Free Jvm.Stand Jvm.LawKit Jvm.RoadKit Bundle
/-! THE ROAD LAYER: one goal 'Go' for a walk, every step a law 'Go next -> Go here'; a callee's summary 'Con'. -/
abbrev Bdy : Type := MethodName × ByteArray × Nat × Option FieldType × Room
abbrev Bdy.y (B : Bdy) : MethodName := B.1
abbrev Bdy.bs (B : Bdy) : ByteArray := B.2.1
abbrev Bdy.ml (B : Bdy) : Nat := B.2.2.1
abbrev Bdy.rt (B : Bdy) : Option FieldType := B.2.2.2.1
abbrev Bdy.rm (B : Bdy) : Room := B.2.2.2.2
abbrev Dyn : Type := Program × Env × State × MethodId × Array Value × List Frame × Method × Code
abbrev Dyn.p (D : Dyn) : Program := D.1
abbrev Dyn.e (D : Dyn) : Env := D.2.1
abbrev Dyn.s (D : Dyn) : State := D.2.2.1
abbrev Dyn.m (D : Dyn) : MethodId := D.2.2.2.1
abbrev Dyn.args (D : Dyn) : Array Value := D.2.2.2.2.1
abbrev Dyn.bl (D : Dyn) : List Frame := D.2.2.2.2.2.1
abbrev Dyn.meth (D : Dyn) : Method := D.2.2.2.2.2.2.1
abbrev Dyn.c (D : Dyn) : Code := D.2.2.2.2.2.2.2
/-- a cell that this law's run has made and that no constant of EL stands for: it may be written -/
def Own (Z : State) (EL : List (String × Nat)) (n0 : Nat) (vm : Vm) (h : Heap) (x : Addr) : Prop := Safe Z EL vm h x ∧ n0 ≤ x ∧ x < h.size
def Ok (B : Bdy) (D : Dyn) : Prop := D.p.tables.exec = Jvm.exec ∧ D.c.code = B.bs ∧ D.c.maxLocals = B.ml ∧ D.meth.sig.returnType = B.rt ∧ D.meth.locks = false ∧ D.meth.name = B.y.name
def Inv (l : Launch) (Z : State) (EL : List (String × Nat)) (n0 : Nat) (kn : Bool) (B : Bdy) (D : Dyn) (h : Heap) (σ : Addr → Prop) (ce sl : Nat) (T : State) (vm0 : Vm) : Prop :=
  ∃ (k0 : Nat) (locs : List Loc), Stand D.p l D.e B.rm (D.s.setVm vm0) D.m D.args D.bl D.meth D.c T locs ce sl ∧ T.heap = h ∧ D.s.Since vm0 k0 ∧ k0 ≤ h.size ∧ Z.Warmed39 vm0 ∧ vm0.findClass B.y.cls = some D.m.cls ∧
    CHr Z EL D.s.vm D.s.heap vm0 h ∧ Fr n0 locs ∧ Old Z n0 h ∧ (∀ x, σ x → Own Z EL n0 vm0 h x) ∧ (kn = true → vm0.MethodsKnown ∧ vm0.FramesKnown D.bl)
abbrev Post : Type := Option Value → Heap → (Addr → Prop) → Prop
def Ends (Z : State) (EL : List (String × Nat)) (n0 : Nat) (B : Bdy) (D : Dyn) (Q : Post) (t0 : State) : Prop :=
  ∃ s₂ o, Steps D.p.tables D.e D.bl t0 s₂ ∧ s₂.status = .running ∧ Ended s₂ D.bl o ∧
    ∃ v L, o = .returned v ∧ Q v s₂.heap (Own Z EL n0 s₂.vm s₂.heap) ∧ Fr n0 L ∧ CHr Z EL D.s.vm D.s.heap s₂.vm s₂.heap ∧ Old Z n0 s₂.heap ∧ ReturnedEndW D.s o s₂ L B.rm.cells B.rm.slots
def Go (l : Launch) (Z : State) (a0 : Array Value) (EL : List (String × Nat)) (n0 : Nat) (kn : Bool) (B : Bdy) (D : Dyn) (Q : Post) (h : Heap) (σ : Addr → Prop) (ce sl : Nat) (pc : Nat) (Ls : Array Slot) (st : List Value) : Prop :=
  Ok B D → EW Z a0 EL → ∀ (T : State) (vm0 : Vm), Inv l Z EL n0 kn B D h σ ce sl T vm0 → Ends Z EL n0 B D Q (T.setTop (mkF D.m pc Ls st))
/-- what is asked of a callee -/
def Con (l : Launch) (Z : State) (EL : List (String × Nat)) (n0 : Nat) (kn : Bool) (B : Bdy) (ws : List Jvm.Cond) (σ : Addr → Prop) (as : Array Value) (h : Heap) (Q : Post) : Prop :=
  MetFree l B.y (head1 (Jvm.Cond.code B.y B.bs B.ml B.rt :: ws) B.rm)
    (fun a U => a = as ∧ Z.Warmed39 U.vm ∧ U.heap = h ∧ CHv Z EL U.vm h ∧ Old Z n0 h ∧ ∀ x, σ x → Own Z EL n0 U.vm h x)
    (fun _ _ bl s _ => kn = true → s.vm.MethodsKnown ∧ s.vm.FramesKnown bl)
    (fun _ U o U' => ∃ v L, o = .returned v ∧ Q v U'.heap (Own Z EL n0 U'.vm U'.heap) ∧ Fr n0 L ∧ CHr Z EL U.vm U.heap U'.vm U'.heap ∧ Old Z n0 U'.heap ∧ ReturnedEndW U o U' L B.rm.cells B.rm.slots)
def push : Option Value → List Value → List Value
  | some v, r => v :: r
  | none, r => r
theorem push_eq (v : Option Value) (r : List Value) : v.toList ++ r = push v r := by cases v <;> rfl
section Laws
variable {l : Launch} {Z : State} {a0 : Array Value} {EL : List (String × Nat)} {n0 : Nat} {kn : Bool} {B : Bdy} {D : Dyn} {Q : Post} {h h' : Heap} {σ : Addr → Prop} {ce sl : Nat} {Ls : Array Slot} {st : List Value}
theorem Con.of {ws : List Jvm.Cond} (hpn : plainFor B.y = true) (hEW : EW Z a0 EL) {as : Array Value} (Ls0 : Array Slot) (hef : ∀ m, entryFrame m as B.ml = mkF m 0 Ls0 [])
    (body : ∀ D : Dyn, D.s.heap = h → Go l Z a0 EL n0 kn B D Q h σ 0 0 0 Ls0 []) : Con l Z EL n0 kn B ws σ as h Q := by
  refine MetFree.of_bodySF hpn hisR ?_
  intro p e s m args below meth c s₁ Bd hml hP hK
  obtain ⟨rfl, hZ, hh, hC, hO, hσ⟩ := hP
  have hnm := (name_of_methodNamed Bd.named Bd.method).1
  have hown := findClass_of_methodNamed Bd.named
  have X0 : Stand p l e B.rm s m args below meth c s₁ [] 0 0 := Stand.of_body Bd
  have e0 : s₁.heap = h := by rw [← hh, Bd.state]; rfl
  obtain ⟨s2, o, st, hr, he, r⟩ := body (p, e, s, m, args, below, meth, c) hh ⟨Bd.exec, Bd.bytes, hml, Bd.returns, Bd.notSynchronized, hnm⟩ hEW s₁ s.vm
    ⟨0, [], X0, e0, (State.WarmedH.refl s).since 0, Nat.zero_le _, hZ, hown, by subst hh; exact CHr.refl hC, Fr.nil n0, hO, hσ, hK⟩
  exact ⟨s2, o, castTop (hef m) st, hr, he, r⟩
/-- one plain step -/
theorem Go.step {pc pc' : Nat} {Ls' : Array Slot} {st' : List Value} (k : ∀ T, At T D.m D.c D.bl → D.p.tables.exec = Jvm.exec → D.c.code = B.bs → ∀ t, Steps D.p.tables D.e D.bl (T.setTop (mkF D.m pc' Ls' st')) t → Steps D.p.tables D.e D.bl (T.setTop (mkF D.m pc Ls st)) t)
    (r : Go l Z a0 EL n0 kn B D Q h σ ce sl pc' Ls' st') : Go l Z a0 EL n0 kn B D Q h σ ce sl pc Ls st := by
  intro ok ew T vm0 I
  obtain ⟨s2, o, q, rest⟩ := r ok ew T vm0 I
  obtain ⟨k0, locs, X, -⟩ := I
  exact ⟨s2, o, k T X.here ok.1 ok.2.1 _ q, rest⟩
/-- fewer permissions, more room taken: what was shown serves -/
theorem Go.weaken {pc : Nat} {σ' : Addr → Prop} {ce' sl' : Nat} (hσ : ∀ x, σ' x → σ x) (hc : ce ≤ ce') (hs : sl ≤ sl') (r : Go l Z a0 EL n0 kn B D Q h σ' ce' sl' pc Ls st) : Go l Z a0 EL n0 kn B D Q h σ ce sl pc Ls st := by
  intro ok ew T vm0 I
  obtain ⟨k0, locs, X, h1, h2, h3, h4, h5, h6, h7, h8, h9, h10⟩ := I
  exact r ok ew T vm0 ⟨k0, locs, X.mono hc hs, h1, h2, h3, h4, h5, h6, h7, h8, fun x q => h9 x (hσ x q), h10⟩
/-- facts that the walk bears -/
theorem Go.old {pc : Nat} (r : Old Z n0 h → Go l Z a0 EL n0 kn B D Q h σ ce sl pc Ls st) : Go l Z a0 EL n0 kn B D Q h σ ce sl pc Ls st := by
  intro ok ew T vm0 I
  refine r ?_ ok ew T vm0 I
  obtain ⟨k0, locs, X, h1, h2, h3, h4, h5, h6, h7, h8, h9, h10⟩ := I
  exact h8
end Laws
end Jvm.Road
namespace Jvm.Road
open Jvm Jvm.ClassFile Sem Op Lib Jvm.Free Jvm.Stand Jvm.LawKit Jvm.RoadKit Bundle
theorem Go.ownAll {l : Launch} {Z : State} {a0 : Array Value} {EL : List (String × Nat)} {n0 : Nat} {kn : Bool} {B : Bdy} {D : Dyn} {Q : Post} {h : Heap} {σ : Addr → Prop} {ce sl : Nat} {Ls : Array Slot} {st : List Value} {pc : Nat}
    (r : (∀ x, σ x → n0 ≤ x ∧ x < h.size) → Go l Z a0 EL n0 kn B D Q h σ ce sl pc Ls st) : Go l Z a0 EL n0 kn B D Q h σ ce sl pc Ls st := by
  intro ok ew T vm0 I
  refine r ?_ ok ew T vm0 I
  obtain ⟨k0, locs, X, h1, h2, h3, h4, h5, h6, h7, h8, h9, h10⟩ := I
  exact fun x hx => (h9 x hx).2
theorem keep_more {h h' : Heap} {ws : List Addr} (K : Keep h h' []) : Keep h h' ws := ⟨K.1, fun x c q _ => K.2.1 x c q nin0, K.2.2⟩
end Jvm.Road
namespace Jvm.Road
open Jvm Jvm.ClassFile Sem Op Lib Jvm.Free Jvm.Stand Jvm.LawKit Jvm.RoadKit Bundle
theorem laid0 : Jvm.Sym.laidSlots [] = [] := rfl
theorem laid1 {v : Value} {vs : List Value} {L : List Slot} (hc : v.category = 1) (h : Jvm.Sym.laidSlots vs = L) : Jvm.Sym.laidSlots (v :: vs) = .val v :: L := by
  rw [Jvm.Sym.laidSlots, hc, h]; rfl
theorem laid2 {v : Value} {vs : List Value} {L : List Slot} (hc : v.category = 2) (h : Jvm.Sym.laidSlots vs = L) : Jvm.Sym.laidSlots (v :: vs) = .val v :: .second :: L := by
  rw [Jvm.Sym.laidSlots, hc, h]; rfl
theorem ent {m : MethodId} {args : Array Value} {n k : Nat} {Ls : Array Slot} {L : List Slot} (h : Jvm.Sym.laidSlots args.toList = L) (hk : n - L.length = k) (hL : L ++ List.replicate k .unset = Ls.toList) : entryFrame m args n = mkF m 0 Ls [] := by
  have : argsToLocals args n = Ls := Array.toList_inj.mp (by rw [Jvm.Sym.argsToLocals_toList, h, hk]; exact hL)
  unfold entryFrame
  rw [this]
end Jvm.Road
namespace Jvm.Road
open Jvm Jvm.ClassFile Sem Op Lib Jvm.Free Jvm.Stand Jvm.LawKit Jvm.RoadKit Bundle
/-- what i2c leaves -/
abbrev chr (x : Int32) : Int32 := x.toUInt32.toUInt16.toUInt32.toInt32
section Plain
variable {l : Launch} {Z : State} {a0 : Array Value} {EL : List (String × Nat)} {n0 : Nat} {kn : Bool} {B : Bdy} {D : Dyn} {Q : Post} {h : Heap} {σ : Addr → Prop} {ce sl : Nat} {Ls : Array Slot} {st : List Value}
theorem aload (pc : Nat) {k : Nat} {v : Value} (hd : decode B.bs pc = .ok (.aload k, 2)) (hl : Ls[k]? = some (.val v))  (r : Go l Z a0 EL n0 kn B D Q h σ ce sl (pc + 2) Ls (v :: st)) (hv : v.isRef = true := by rfl) : Go l Z a0 EL n0 kn B D Q h σ ce sl pc Ls st :=
  Go.step (fun T hA hx hb t q => XS.aload hA hx rfl (Jvm.hb hb hd) hl hv q) r
theorem aloadN (pc : Nat) {k : Fin 4} {v : Value} (hd : decode B.bs pc = .ok (.aload_n k, 1)) (hl : Ls[k.val]? = some (.val v))  (r : Go l Z a0 EL n0 kn B D Q h σ ce sl (pc + 1) Ls (v :: st)) (hv : v.isRef = true := by rfl) : Go l Z a0 EL n0 kn B D Q h σ ce sl pc Ls st :=
  Go.step (fun T hA hx hb t q => XS.aloadN hA hx rfl (Jvm.hb hb hd) hl hv q) r
theorem iload (pc : Nat) {k : Nat} {v : Int32} (hd : decode B.bs pc = .ok (.iload k, 2)) (hl : Ls[k]? = some (.val (.int v))) (r : Go l Z a0 EL n0 kn B D Q h σ ce sl (pc + 2) Ls (.int v :: st))  : Go l Z a0 EL n0 kn B D Q h σ ce sl pc Ls st :=
  Go.step (fun T hA hx hb t q => XS.iload hA hx rfl (Jvm.hb hb hd) hl q) r
theorem iloadN (pc : Nat) {k : Fin 4} {v : Int32} (hd : decode B.bs pc = .ok (.iload_n k, 1)) (hl : Ls[k.val]? = some (.val (.int v))) (r : Go l Z a0 EL n0 kn B D Q h σ ce sl (pc + 1) Ls (.int v :: st))  : Go l Z a0 EL n0 kn B D Q h σ ce sl pc Ls st :=
  Go.step (fun T hA hx hb t q => XS.iloadN hA hx rfl (Jvm.hb hb hd) hl q) r
theorem lload (pc : Nat) {k : Nat} {v : Int64} (hd : decode B.bs pc = .ok (.lload k, 2)) (hl : Ls[k]? = some (.val (.long v))) (r : Go l Z a0 EL n0 kn B D Q h σ ce sl (pc + 2) Ls (.long v :: st))  : Go l Z a0 EL n0 kn B D Q h σ ce sl pc Ls st :=
  Go.step (fun T hA hx hb t q => XT.lload hA hx rfl (Jvm.hb hb hd) hl q) r
theorem lloadN (pc : Nat) {k : Fin 4} {v : Int64} (hd : decode B.bs pc = .ok (.lload_n k, 1)) (hl : Ls[k.val]? = some (.val (.long v))) (r : Go l Z a0 EL n0 kn B D Q h σ ce sl (pc + 1) Ls (.long v :: st))  : Go l Z a0 EL n0 kn B D Q h σ ce sl pc Ls st :=
  Go.step (fun T hA hx hb t q => XT.lloadN hA hx rfl (Jvm.hb hb hd) hl q) r
theorem iconst (pc : Nat) {i : Int} (v : Int32) (hd : decode B.bs pc = .ok (.iconst i, 1)) (hv : Int32.ofInt i = v) (r : Go l Z a0 EL n0 kn B D Q h σ ce sl (pc + 1) Ls (.int v :: st))  : Go l Z a0 EL n0 kn B D Q h σ ce sl pc Ls st :=
  Go.step (fun T hA hx hb t q => XT.iconstV hA hx rfl v (Jvm.hb hb hd) hv q) r
theorem bipush (pc : Nat) {i : Int} (v : Int32) (hd : decode B.bs pc = .ok (.bipush i, 2)) (hv : (Int8.ofInt i).toInt32 = v) (r : Go l Z a0 EL n0 kn B D Q h σ ce sl (pc + 2) Ls (.int v :: st))  : Go l Z a0 EL n0 kn B D Q h σ ce sl pc Ls st :=
  Go.step (fun T hA hx hb t q => XT.bipushV hA hx rfl v (Jvm.hb hb hd) hv q) r
theorem sipush (pc : Nat) {i : Int} (v : Int32) (hd : decode B.bs pc = .ok (.sipush i, 3)) (hv : (Int16.ofInt i).toInt32 = v) (r : Go l Z a0 EL n0 kn B D Q h σ ce sl (pc + 3) Ls (.int v :: st))  : Go l Z a0 EL n0 kn B D Q h σ ce sl pc Ls st :=
  Go.step (fun T hA hx hb t q => XT.sipushV hA hx rfl v (Jvm.hb hb hd) hv q) r
theorem lconst (pc : Nat) {k : Fin 2} (v : Int64) (hd : decode B.bs pc = .ok (.lconst k, 1)) (hv : Int64.ofNat k = v) (r : Go l Z a0 EL n0 kn B D Q h σ ce sl (pc + 1) Ls (.long v :: st))  : Go l Z a0 EL n0 kn B D Q h σ ce sl pc Ls st :=
  Go.step (fun T hA hx hb t q => XT.lconstV hA hx rfl v (Jvm.hb hb hd) hv q) r
theorem aconstNull (pc : Nat)  (hd : decode B.bs pc = .ok (.aconst_null, 1))  (r : Go l Z a0 EL n0 kn B D Q h σ ce sl (pc + 1) Ls (.null :: st))  : Go l Z a0 EL n0 kn B D Q h σ ce sl pc Ls st :=
  Go.step (fun T hA hx hb t q => XS.aconstNull hA hx rfl (Jvm.hb hb hd) q) r
theorem iadd (pc : Nat) {x y : Int32} (hd : decode B.bs pc = .ok (.iadd, 1))  (r : Go l Z a0 EL n0 kn B D Q h σ ce sl (pc + 1) Ls (.int (x + y) :: st))  : Go l Z a0 EL n0 kn B D Q h σ ce sl pc Ls (.int y :: .int x :: st) :=
  Go.step (fun T hA hx hb t q => XS.iadd hA hx rfl (Jvm.hb hb hd) rfl q) r
theorem isub (pc : Nat) {x y : Int32} (hd : decode B.bs pc = .ok (.isub, 1))  (r : Go l Z a0 EL n0 kn B D Q h σ ce sl (pc + 1) Ls (.int (x - y) :: st))  : Go l Z a0 EL n0 kn B D Q h σ ce sl pc Ls (.int y :: .int x :: st) :=
  Go.step (fun T hA hx hb t q => XS.isub hA hx rfl (Jvm.hb hb hd) rfl q) r
theorem iand (pc : Nat) {x y : Int32} (hd : decode B.bs pc = .ok (.iand, 1))  (r : Go l Z a0 EL n0 kn B D Q h σ ce sl (pc + 1) Ls (.int (x &&& y) :: st))  : Go l Z a0 EL n0 kn B D Q h σ ce sl pc Ls (.int y :: .int x :: st) :=
  Go.step (fun T hA hx hb t q => XS.iand hA hx rfl (Jvm.hb hb hd) rfl q) r
theorem imul (pc : Nat) {x y : Int32} (hd : decode B.bs pc = .ok (.imul, 1))  (r : Go l Z a0 EL n0 kn B D Q h σ ce sl (pc + 1) Ls (.int (x * y) :: st))  : Go l Z a0 EL n0 kn B D Q h σ ce sl pc Ls (.int y :: .int x :: st) :=
  Go.step (fun T hA hx hb t q => XS.imul hA hx rfl (Jvm.hb hb hd) rfl q) r
theorem ixor (pc : Nat) {x y : Int32} (hd : decode B.bs pc = .ok (.ixor, 1))  (r : Go l Z a0 EL n0 kn B D Q h σ ce sl (pc + 1) Ls (.int (x ^^^ y) :: st))  : Go l Z a0 EL n0 kn B D Q h σ ce sl pc Ls (.int y :: .int x :: st) :=
  Go.step (fun T hA hx hb t q => XT.ixor hA hx rfl (Jvm.hb hb hd) rfl q) r
theorem ior (pc : Nat) {x y : Int32} (hd : decode B.bs pc = .ok (.ior, 1))  (r : Go l Z a0 EL n0 kn B D Q h σ ce sl (pc + 1) Ls (.int (x ||| y) :: st))  : Go l Z a0 EL n0 kn B D Q h σ ce sl pc Ls (.int y :: .int x :: st) :=
  Go.step (fun T hA hx hb t q => XT.ior hA hx rfl (Jvm.hb hb hd) rfl q) r
theorem ishl (pc : Nat) {x y : Int32} (hd : decode B.bs pc = .ok (.ishl, 1))  (r : Go l Z a0 EL n0 kn B D Q h σ ce sl (pc + 1) Ls (.int (x <<< (y &&& 31)) :: st))  : Go l Z a0 EL n0 kn B D Q h σ ce sl pc Ls (.int y :: .int x :: st) :=
  Go.step (fun T hA hx hb t q => XT.ishl hA hx rfl (Jvm.hb hb hd) rfl q) r
theorem ishr (pc : Nat) {x y : Int32} (hd : decode B.bs pc = .ok (.ishr, 1))  (r : Go l Z a0 EL n0 kn B D Q h σ ce sl (pc + 1) Ls (.int (x >>> (y &&& 31)) :: st))  : Go l Z a0 EL n0 kn B D Q h σ ce sl pc Ls (.int y :: .int x :: st) :=
  Go.step (fun T hA hx hb t q => XT.ishr hA hx rfl (Jvm.hb hb hd) rfl q) r
theorem iushr (pc : Nat) {x y : Int32} (hd : decode B.bs pc = .ok (.iushr, 1))  (r : Go l Z a0 EL n0 kn B D Q h σ ce sl (pc + 1) Ls (.int (XT.ushr x y) :: st))  : Go l Z a0 EL n0 kn B D Q h σ ce sl pc Ls (.int y :: .int x :: st) :=
  Go.step (fun T hA hx hb t q => XT.iushr hA hx rfl (Jvm.hb hb hd) rfl q) r
theorem idiv (pc : Nat) {x y : Int32} (hd : decode B.bs pc = .ok (.idiv, 1)) (hy : y ≠ 0) (r : Go l Z a0 EL n0 kn B D Q h σ ce sl (pc + 1) Ls (.int (x / y) :: st))  : Go l Z a0 EL n0 kn B D Q h σ ce sl pc Ls (.int y :: .int x :: st) :=
  Go.step (fun T hA hx hb t q => XS.idiv hA hx rfl (Jvm.hb hb hd) rfl hy q) r
theorem irem (pc : Nat) {x y : Int32} (hd : decode B.bs pc = .ok (.irem, 1)) (hy : y ≠ 0) (r : Go l Z a0 EL n0 kn B D Q h σ ce sl (pc + 1) Ls (.int (x % y) :: st))  : Go l Z a0 EL n0 kn B D Q h σ ce sl pc Ls (.int y :: .int x :: st) :=
  Go.step (fun T hA hx hb t q => XS.irem hA hx rfl (Jvm.hb hb hd) rfl hy (by rw [irem_eq_mod]; exact q)) r
theorem ineg (pc : Nat) {x : Int32} (hd : decode B.bs pc = .ok (.ineg, 1))  (r : Go l Z a0 EL n0 kn B D Q h σ ce sl (pc + 1) Ls (.int (-x) :: st))  : Go l Z a0 EL n0 kn B D Q h σ ce sl pc Ls (.int x :: st) :=
  Go.step (fun T hA hx hb t q => XS.ineg hA hx rfl (Jvm.hb hb hd) rfl q) r
theorem ladd (pc : Nat) {x y : Int64} (hd : decode B.bs pc = .ok (.ladd, 1))  (r : Go l Z a0 EL n0 kn B D Q h σ ce sl (pc + 1) Ls (.long (x + y) :: st))  : Go l Z a0 EL n0 kn B D Q h σ ce sl pc Ls (.long y :: .long x :: st) :=
  Go.step (fun T hA hx hb t q => XT.ladd hA hx rfl (Jvm.hb hb hd) rfl q) r
theorem lsub (pc : Nat) {x y : Int64} (hd : decode B.bs pc = .ok (.lsub, 1))  (r : Go l Z a0 EL n0 kn B D Q h σ ce sl (pc + 1) Ls (.long (x - y) :: st))  : Go l Z a0 EL n0 kn B D Q h σ ce sl pc Ls (.long y :: .long x :: st) :=
  Go.step (fun T hA hx hb t q => XT.lsub hA hx rfl (Jvm.hb hb hd) rfl q) r
theorem land (pc : Nat) {x y : Int64} (hd : decode B.bs pc = .ok (.land, 1))  (r : Go l Z a0 EL n0 kn B D Q h σ ce sl (pc + 1) Ls (.long (x &&& y) :: st))  : Go l Z a0 EL n0 kn B D Q h σ ce sl pc Ls (.long y :: .long x :: st) :=
  Go.step (fun T hA hx hb t q => XT.land hA hx rfl (Jvm.hb hb hd) rfl q) r
theorem lmul (pc : Nat) {x y : Int64} (hd : decode B.bs pc = .ok (.lmul, 1))  (r : Go l Z a0 EL n0 kn B D Q h σ ce sl (pc + 1) Ls (.long (x * y) :: st))  : Go l Z a0 EL n0 kn B D Q h σ ce sl pc Ls (.long y :: .long x :: st) :=
  Go.step (fun T hA hx hb t q => XT.lmul hA hx rfl (Jvm.hb hb hd) rfl q) r
theorem lxor (pc : Nat) {x y : Int64} (hd : decode B.bs pc = .ok (.lxor, 1))  (r : Go l Z a0 EL n0 kn B D Q h σ ce sl (pc + 1) Ls (.long (x ^^^ y) :: st))  : Go l Z a0 EL n0 kn B D Q h σ ce sl pc Ls (.long y :: .long x :: st) :=
  Go.step (fun T hA hx hb t q => XT.lxor hA hx rfl (Jvm.hb hb hd) rfl q) r
theorem lor (pc : Nat) {x y : Int64} (hd : decode B.bs pc = .ok (.lor, 1))  (r : Go l Z a0 EL n0 kn B D Q h σ ce sl (pc + 1) Ls (.long (x ||| y) :: st))  : Go l Z a0 EL n0 kn B D Q h σ ce sl pc Ls (.long y :: .long x :: st) :=
  Go.step (fun T hA hx hb t q => XT.lor hA hx rfl (Jvm.hb hb hd) rfl q) r
theorem lushr (pc : Nat) {x : Int64} {y : Int32} (hd : decode B.bs pc = .ok (.lushr, 1))  (r : Go l Z a0 EL n0 kn B D Q h σ ce sl (pc + 1) Ls (.long (XT.ushrL x y) :: st))  : Go l Z a0 EL n0 kn B D Q h σ ce sl pc Ls (.int y :: .long x :: st) :=
  Go.step (fun T hA hx hb t q => XT.lushr hA hx rfl (Jvm.hb hb hd) rfl q) r
theorem ldiv (pc : Nat) {x y : Int64} (hd : decode B.bs pc = .ok (.ldiv, 1)) (hy : y ≠ 0) (r : Go l Z a0 EL n0 kn B D Q h σ ce sl (pc + 1) Ls (.long (x / y) :: st))  : Go l Z a0 EL n0 kn B D Q h σ ce sl pc Ls (.long y :: .long x :: st) :=
  Go.step (fun T hA hx hb t q => XT.ldiv hA hx rfl (Jvm.hb hb hd) rfl hy q) r
theorem lrem (pc : Nat) {x y : Int64} (hd : decode B.bs pc = .ok (.lrem, 1)) (hy : y ≠ 0) (r : Go l Z a0 EL n0 kn B D Q h σ ce sl (pc + 1) Ls (.long (x - (x / y) * y) :: st))  : Go l Z a0 EL n0 kn B D Q h σ ce sl pc Ls (.long y :: .long x :: st) :=
  Go.step (fun T hA hx hb t q => XT.lrem hA hx rfl (Jvm.hb hb hd) rfl hy q) r
theorem lneg (pc : Nat) {x : Int64} (hd : decode B.bs pc = .ok (.lneg, 1))  (r : Go l Z a0 EL n0 kn B D Q h σ ce sl (pc + 1) Ls (.long (-x) :: st))  : Go l Z a0 EL n0 kn B D Q h σ ce sl pc Ls (.long x :: st) :=
  Go.step (fun T hA hx hb t q => XT.lneg hA hx rfl (Jvm.hb hb hd) rfl q) r
theorem i2l (pc : Nat) {x : Int32} (hd : decode B.bs pc = .ok (.i2l, 1))  (r : Go l Z a0 EL n0 kn B D Q h σ ce sl (pc + 1) Ls (.long x.toInt64 :: st))  : Go l Z a0 EL n0 kn B D Q h σ ce sl pc Ls (.int x :: st) :=
  Go.step (fun T hA hx hb t q => XT.i2l hA hx rfl (Jvm.hb hb hd) rfl q) r
theorem l2i (pc : Nat) {x : Int64} (hd : decode B.bs pc = .ok (.l2i, 1))  (r : Go l Z a0 EL n0 kn B D Q h σ ce sl (pc + 1) Ls (.int x.toInt32 :: st))  : Go l Z a0 EL n0 kn B D Q h σ ce sl pc Ls (.long x :: st) :=
  Go.step (fun T hA hx hb t q => XT.l2i hA hx rfl (Jvm.hb hb hd) rfl q) r
theorem i2b (pc : Nat) {x : Int32} (hd : decode B.bs pc = .ok (.i2b, 1))  (r : Go l Z a0 EL n0 kn B D Q h σ ce sl (pc + 1) Ls (.int x.toInt8.toInt32 :: st))  : Go l Z a0 EL n0 kn B D Q h σ ce sl pc Ls (.int x :: st) :=
  Go.step (fun T hA hx hb t q => XT.i2b hA hx rfl (Jvm.hb hb hd) rfl q) r
theorem i2c (pc : Nat) {x : Int32} (hd : decode B.bs pc = .ok (.i2c, 1))  (r : Go l Z a0 EL n0 kn B D Q h σ ce sl (pc + 1) Ls (.int (chr x) :: st))  : Go l Z a0 EL n0 kn B D Q h σ ce sl pc Ls (.int x :: st) :=
  Go.step (fun T hA hx hb t q => XT.i2c hA hx rfl (Jvm.hb hb hd) rfl q) r
theorem lcmp (pc : Nat) {x y : Int64} (hd : decode B.bs pc = .ok (.lcmp, 1))  (r : Go l Z a0 EL n0 kn B D Q h σ ce sl (pc + 1) Ls (.int (XT.cmpL x y) :: st))  : Go l Z a0 EL n0 kn B D Q h σ ce sl pc Ls (.long y :: .long x :: st) :=
  Go.step (fun T hA hx hb t q => XT.lcmp hA hx rfl (Jvm.hb hb hd) rfl q) r
theorem dup (pc : Nat) {v : Value} (hd : decode B.bs pc = .ok (.dup, 1))  (r : Go l Z a0 EL n0 kn B D Q h σ ce sl (pc + 1) Ls (v :: v :: st)) (hc : v.category = 1 := by rfl) : Go l Z a0 EL n0 kn B D Q h σ ce sl pc Ls (v :: st) :=
  Go.step (fun T hA hx hb t q => XS.dup hA hx rfl (Jvm.hb hb hd) rfl hc q) r
theorem dupX1 (pc : Nat) {v w : Value} (hd : decode B.bs pc = .ok (.dup_x1, 1))   (r : Go l Z a0 EL n0 kn B D Q h σ ce sl (pc + 1) Ls (v :: w :: v :: st)) (hc : v.category = 1 := by rfl) (hw : w.category = 1 := by rfl) : Go l Z a0 EL n0 kn B D Q h σ ce sl pc Ls (v :: w :: st) :=
  Go.step (fun T hA hx hb t q => XT.dupX1 hA hx rfl (Jvm.hb hb hd) rfl hc hw q) r
theorem pop (pc : Nat) {v : Value} (hd : decode B.bs pc = .ok (.pop, 1))  (r : Go l Z a0 EL n0 kn B D Q h σ ce sl (pc + 1) Ls st) (hc : v.category = 1 := by rfl) : Go l Z a0 EL n0 kn B D Q h σ ce sl pc Ls (v :: st) :=
  Go.step (fun T hA hx hb t q => XT.pop hA hx rfl (Jvm.hb hb hd) rfl hc q) r
theorem istore (pc : Nat) {k : Nat} {x : Int32} (l' : Array Slot) (hd : decode B.bs pc = .ok (.istore k, 2)) (hl : storeLocals Ls k (.int x) = some l') (r : Go l Z a0 EL n0 kn B D Q h σ ce sl (pc + 2) l' st)  : Go l Z a0 EL n0 kn B D Q h σ ce sl pc Ls (.int x :: st) :=
  Go.step (fun T hA hx hb t q => XS.istore hA hx rfl (Jvm.hb hb hd) rfl hl q) r
theorem istoreN (pc : Nat) {k : Fin 4} {x : Int32} (l' : Array Slot) (hd : decode B.bs pc = .ok (.istore_n k, 1)) (hl : storeLocals Ls k.val (.int x) = some l') (r : Go l Z a0 EL n0 kn B D Q h σ ce sl (pc + 1) l' st)  : Go l Z a0 EL n0 kn B D Q h σ ce sl pc Ls (.int x :: st) :=
  Go.step (fun T hA hx hb t q => XS.istoreN hA hx rfl (Jvm.hb hb hd) rfl hl q) r
theorem lstore (pc : Nat) {k : Nat} {x : Int64} (l' : Array Slot) (hd : decode B.bs pc = .ok (.lstore k, 2)) (hl : storeLocals Ls k (.long x) = some l') (r : Go l Z a0 EL n0 kn B D Q h σ ce sl (pc + 2) l' st)  : Go l Z a0 EL n0 kn B D Q h σ ce sl pc Ls (.long x :: st) :=
  Go.step (fun T hA hx hb t q => XT.lstore hA hx rfl (Jvm.hb hb hd) rfl hl q) r
theorem lstoreN (pc : Nat) {k : Fin 4} {x : Int64} (l' : Array Slot) (hd : decode B.bs pc = .ok (.lstore_n k, 1)) (hl : storeLocals Ls k.val (.long x) = some l') (r : Go l Z a0 EL n0 kn B D Q h σ ce sl (pc + 1) l' st)  : Go l Z a0 EL n0 kn B D Q h σ ce sl pc Ls (.long x :: st) :=
  Go.step (fun T hA hx hb t q => XT.lstoreN hA hx rfl (Jvm.hb hb hd) rfl hl q) r
theorem astore (pc : Nat) {k : Nat} {v : Value} (l' : Array Slot) (hd : decode B.bs pc = .ok (.astore k, 2)) (hl : storeLocals Ls k v = some l')  (r : Go l Z a0 EL n0 kn B D Q h σ ce sl (pc + 2) l' st) (hv : v.isRef = true := by rfl) : Go l Z a0 EL n0 kn B D Q h σ ce sl pc Ls (v :: st) :=
  Go.step (fun T hA hx hb t q => XS.astore hA hx rfl (Jvm.hb hb hd) rfl hv hl q) r
theorem astoreN (pc : Nat) {k : Fin 4} {v : Value} (l' : Array Slot) (hd : decode B.bs pc = .ok (.astore_n k, 1)) (hl : storeLocals Ls k.val v = some l')  (r : Go l Z a0 EL n0 kn B D Q h σ ce sl (pc + 1) l' st) (hv : v.isRef = true := by rfl) : Go l Z a0 EL n0 kn B D Q h σ ce sl pc Ls (v :: st) :=
  Go.step (fun T hA hx hb t q => XS.astoreN hA hx rfl (Jvm.hb hb hd) rfl hv hl q) r
theorem iinc (pc : Nat) {k : Nat} {c : Int} {x : Int32} (v : Int32) (l' : Array Slot) (hd : decode B.bs pc = .ok (.iinc k c, 3)) (hv : Int32.ofInt c = v) (hl : Ls[k]? = some (.val (.int x))) (hl' : storeLocals Ls k (.int (x + v)) = some l') (r : Go l Z a0 EL n0 kn B D Q h σ ce sl (pc + 3) l' st)  : Go l Z a0 EL n0 kn B D Q h σ ce sl pc Ls st :=
  Go.step (fun T hA hx hb t q => XT.iincV hA hx rfl v (Jvm.hb hb hd) hv hl hl' q) r
theorem goto (pc : Nat) (tgt : Nat) {o : Int} (hd : decode B.bs pc = .ok (.goto o, 3)) (ht : (pc : Int) + o = (tgt : Int)) (r : Go l Z a0 EL n0 kn B D Q h σ ce sl tgt Ls st) : Go l Z a0 EL n0 kn B D Q h σ ce sl pc Ls st :=
  Go.step (fun T hA hx hb t q => XS.goto hA hx rfl (pc0 := pc) (pc' := tgt) rfl (Jvm.hb hb hd) (by rw [ht]; exact Int.natCast_nonneg _) (by rw [ht]; rfl) q) r
theorem icmp_eq (pc : Nat) (tgt : Nat) {o : Int} {x y : Int32} (hd : decode B.bs pc = .ok (.if_icmp .eq o, 3)) (ht : (pc : Int) + o = (tgt : Int)) (yes : x = y → Go l Z a0 EL n0 kn B D Q h σ ce sl tgt Ls st) (no : ¬ (x = y) → Go l Z a0 EL n0 kn B D Q h σ ce sl (pc + 3) Ls st) : Go l Z a0 EL n0 kn B D Q h σ ce sl pc Ls (.int y :: .int x :: st) := by
  by_cases c : x = y
  · exact Go.step (fun T hA hx hb t q => XS.icmpYes hA hx rfl (pc0 := pc) (pc' := tgt) rfl (Jvm.hb hb hd) rfl (XT.ii_eq_t c) (by rw [ht]; exact Int.natCast_nonneg _) (by rw [ht]; rfl) q) (yes c)
  · exact Go.step (fun T hA hx hb t q => XS.icmpNo hA hx rfl (Jvm.hb hb hd) rfl (XT.ii_eq_f c) q) (no c)
theorem icmp_ne (pc : Nat) (tgt : Nat) {o : Int} {x y : Int32} (hd : decode B.bs pc = .ok (.if_icmp .ne o, 3)) (ht : (pc : Int) + o = (tgt : Int)) (yes : ¬ (x = y) → Go l Z a0 EL n0 kn B D Q h σ ce sl tgt Ls st) (no : x = y → Go l Z a0 EL n0 kn B D Q h σ ce sl (pc + 3) Ls st) : Go l Z a0 EL n0 kn B D Q h σ ce sl pc Ls (.int y :: .int x :: st) := by
  by_cases c : x = y
  · exact Go.step (fun T hA hx hb t q => XS.icmpNo hA hx rfl (Jvm.hb hb hd) rfl (XT.ii_ne_f c) q) (no c)
  · exact Go.step (fun T hA hx hb t q => XS.icmpYes hA hx rfl (pc0 := pc) (pc' := tgt) rfl (Jvm.hb hb hd) rfl (XT.ii_ne_t c) (by rw [ht]; exact Int.natCast_nonneg _) (by rw [ht]; rfl) q) (yes c)
theorem icmp_lt (pc : Nat) (tgt : Nat) {o : Int} {x y : Int32} (hd : decode B.bs pc = .ok (.if_icmp .lt o, 3)) (ht : (pc : Int) + o = (tgt : Int)) (yes : x < y → Go l Z a0 EL n0 kn B D Q h σ ce sl tgt Ls st) (no : ¬ (x < y) → Go l Z a0 EL n0 kn B D Q h σ ce sl (pc + 3) Ls st) : Go l Z a0 EL n0 kn B D Q h σ ce sl pc Ls (.int y :: .int x :: st) := by
  by_cases c : x < y
  · exact Go.step (fun T hA hx hb t q => XS.icmpYes hA hx rfl (pc0 := pc) (pc' := tgt) rfl (Jvm.hb hb hd) rfl (XT.ii_lt_t c) (by rw [ht]; exact Int.natCast_nonneg _) (by rw [ht]; rfl) q) (yes c)
  · exact Go.step (fun T hA hx hb t q => XS.icmpNo hA hx rfl (Jvm.hb hb hd) rfl (XT.ii_lt_f c) q) (no c)
theorem icmp_ge (pc : Nat) (tgt : Nat) {o : Int} {x y : Int32} (hd : decode B.bs pc = .ok (.if_icmp .ge o, 3)) (ht : (pc : Int) + o = (tgt : Int)) (yes : ¬ (x < y) → Go l Z a0 EL n0 kn B D Q h σ ce sl tgt Ls st) (no : x < y → Go l Z a0 EL n0 kn B D Q h σ ce sl (pc + 3) Ls st) : Go l Z a0 EL n0 kn B D Q h σ ce sl pc Ls (.int y :: .int x :: st) := by
  by_cases c : x < y
  · exact Go.step (fun T hA hx hb t q => XS.icmpNo hA hx rfl (Jvm.hb hb hd) rfl (XT.ii_ge_f c) q) (no c)
  · exact Go.step (fun T hA hx hb t q => XS.icmpYes hA hx rfl (pc0 := pc) (pc' := tgt) rfl (Jvm.hb hb hd) rfl (XT.ii_ge_t c) (by rw [ht]; exact Int.natCast_nonneg _) (by rw [ht]; rfl) q) (yes c)
theorem icmp_gt (pc : Nat) (tgt : Nat) {o : Int} {x y : Int32} (hd : decode B.bs pc = .ok (.if_icmp .gt o, 3)) (ht : (pc : Int) + o = (tgt : Int)) (yes : y < x → Go l Z a0 EL n0 kn B D Q h σ ce sl tgt Ls st) (no : ¬ (y < x) → Go l Z a0 EL n0 kn B D Q h σ ce sl (pc + 3) Ls st) : Go l Z a0 EL n0 kn B D Q h σ ce sl pc Ls (.int y :: .int x :: st) := by
  by_cases c : y < x
  · exact Go.step (fun T hA hx hb t q => XS.icmpYes hA hx rfl (pc0 := pc) (pc' := tgt) rfl (Jvm.hb hb hd) rfl (XT.ii_gt_t c) (by rw [ht]; exact Int.natCast_nonneg _) (by rw [ht]; rfl) q) (yes c)
  · exact Go.step (fun T hA hx hb t q => XS.icmpNo hA hx rfl (Jvm.hb hb hd) rfl (XT.ii_gt_f c) q) (no c)
theorem icmp_le (pc : Nat) (tgt : Nat) {o : Int} {x y : Int32} (hd : decode B.bs pc = .ok (.if_icmp .le o, 3)) (ht : (pc : Int) + o = (tgt : Int)) (yes : ¬ (y < x) → Go l Z a0 EL n0 kn B D Q h σ ce sl tgt Ls st) (no : y < x → Go l Z a0 EL n0 kn B D Q h σ ce sl (pc + 3) Ls st) : Go l Z a0 EL n0 kn B D Q h σ ce sl pc Ls (.int y :: .int x :: st) := by
  by_cases c : y < x
  · exact Go.step (fun T hA hx hb t q => XS.icmpNo hA hx rfl (Jvm.hb hb hd) rfl (XT.ii_le_f c) q) (no c)
  · exact Go.step (fun T hA hx hb t q => XS.icmpYes hA hx rfl (pc0 := pc) (pc' := tgt) rfl (Jvm.hb hb hd) rfl (XT.ii_le_t c) (by rw [ht]; exact Int.natCast_nonneg _) (by rw [ht]; rfl) q) (yes c)
theorem if_eq (pc : Nat) (tgt : Nat) {o : Int} {x : Int32} (hd : decode B.bs pc = .ok (.ifCond .eq o, 3)) (ht : (pc : Int) + o = (tgt : Int)) (yes : x = 0 → Go l Z a0 EL n0 kn B D Q h σ ce sl tgt Ls st) (no : ¬ (x = 0) → Go l Z a0 EL n0 kn B D Q h σ ce sl (pc + 3) Ls st) : Go l Z a0 EL n0 kn B D Q h σ ce sl pc Ls (.int x :: st) := by
  by_cases c : x = 0
  · exact Go.step (fun T hA hx hb t q => XS.ifYes hA hx rfl (pc0 := pc) (pc' := tgt) rfl (Jvm.hb hb hd) rfl (XT.i0_eq_t c) (by rw [ht]; exact Int.natCast_nonneg _) (by rw [ht]; rfl) q) (yes c)
  · exact Go.step (fun T hA hx hb t q => XS.ifNo hA hx rfl (Jvm.hb hb hd) rfl (XT.i0_eq_f c) q) (no c)
theorem if_ne (pc : Nat) (tgt : Nat) {o : Int} {x : Int32} (hd : decode B.bs pc = .ok (.ifCond .ne o, 3)) (ht : (pc : Int) + o = (tgt : Int)) (yes : ¬ (x = 0) → Go l Z a0 EL n0 kn B D Q h σ ce sl tgt Ls st) (no : x = 0 → Go l Z a0 EL n0 kn B D Q h σ ce sl (pc + 3) Ls st) : Go l Z a0 EL n0 kn B D Q h σ ce sl pc Ls (.int x :: st) := by
  by_cases c : x = 0
  · exact Go.step (fun T hA hx hb t q => XS.ifNo hA hx rfl (Jvm.hb hb hd) rfl (XT.i0_ne_f c) q) (no c)
  · exact Go.step (fun T hA hx hb t q => XS.ifYes hA hx rfl (pc0 := pc) (pc' := tgt) rfl (Jvm.hb hb hd) rfl (XT.i0_ne_t c) (by rw [ht]; exact Int.natCast_nonneg _) (by rw [ht]; rfl) q) (yes c)
theorem if_lt (pc : Nat) (tgt : Nat) {o : Int} {x : Int32} (hd : decode B.bs pc = .ok (.ifCond .lt o, 3)) (ht : (pc : Int) + o = (tgt : Int)) (yes : x < 0 → Go l Z a0 EL n0 kn B D Q h σ ce sl tgt Ls st) (no : ¬ (x < 0) → Go l Z a0 EL n0 kn B D Q h σ ce sl (pc + 3) Ls st) : Go l Z a0 EL n0 kn B D Q h σ ce sl pc Ls (.int x :: st) := by
  by_cases c : x < 0
  · exact Go.step (fun T hA hx hb t q => XS.ifYes hA hx rfl (pc0 := pc) (pc' := tgt) rfl (Jvm.hb hb hd) rfl (XT.i0_lt_t c) (by rw [ht]; exact Int.natCast_nonneg _) (by rw [ht]; rfl) q) (yes c)
  · exact Go.step (fun T hA hx hb t q => XS.ifNo hA hx rfl (Jvm.hb hb hd) rfl (XT.i0_lt_f c) q) (no c)
theorem if_ge (pc : Nat) (tgt : Nat) {o : Int} {x : Int32} (hd : decode B.bs pc = .ok (.ifCond .ge o, 3)) (ht : (pc : Int) + o = (tgt : Int)) (yes : ¬ (x < 0) → Go l Z a0 EL n0 kn B D Q h σ ce sl tgt Ls st) (no : x < 0 → Go l Z a0 EL n0 kn B D Q h σ ce sl (pc + 3) Ls st) : Go l Z a0 EL n0 kn B D Q h σ ce sl pc Ls (.int x :: st) := by
  by_cases c : x < 0
  · exact Go.step (fun T hA hx hb t q => XS.ifNo hA hx rfl (Jvm.hb hb hd) rfl (XT.i0_ge_f c) q) (no c)
  · exact Go.step (fun T hA hx hb t q => XS.ifYes hA hx rfl (pc0 := pc) (pc' := tgt) rfl (Jvm.hb hb hd) rfl (XT.i0_ge_t c) (by rw [ht]; exact Int.natCast_nonneg _) (by rw [ht]; rfl) q) (yes c)
theorem if_gt (pc : Nat) (tgt : Nat) {o : Int} {x : Int32} (hd : decode B.bs pc = .ok (.ifCond .gt o, 3)) (ht : (pc : Int) + o = (tgt : Int)) (yes : 0 < x → Go l Z a0 EL n0 kn B D Q h σ ce sl tgt Ls st) (no : ¬ (0 < x) → Go l Z a0 EL n0 kn B D Q h σ ce sl (pc + 3) Ls st) : Go l Z a0 EL n0 kn B D Q h σ ce sl pc Ls (.int x :: st) := by
  by_cases c : 0 < x
  · exact Go.step (fun T hA hx hb t q => XS.ifYes hA hx rfl (pc0 := pc) (pc' := tgt) rfl (Jvm.hb hb hd) rfl (XT.i0_gt_t c) (by rw [ht]; exact Int.natCast_nonneg _) (by rw [ht]; rfl) q) (yes c)
  · exact Go.step (fun T hA hx hb t q => XS.ifNo hA hx rfl (Jvm.hb hb hd) rfl (XT.i0_gt_f c) q) (no c)
theorem if_le (pc : Nat) (tgt : Nat) {o : Int} {x : Int32} (hd : decode B.bs pc = .ok (.ifCond .le o, 3)) (ht : (pc : Int) + o = (tgt : Int)) (yes : ¬ (0 < x) → Go l Z a0 EL n0 kn B D Q h σ ce sl tgt Ls st) (no : 0 < x → Go l Z a0 EL n0 kn B D Q h σ ce sl (pc + 3) Ls st) : Go l Z a0 EL n0 kn B D Q h σ ce sl pc Ls (.int x :: st) := by
  by_cases c : 0 < x
  · exact Go.step (fun T hA hx hb t q => XS.ifNo hA hx rfl (Jvm.hb hb hd) rfl (XT.i0_le_f c) q) (no c)
  · exact Go.step (fun T hA hx hb t q => XS.ifYes hA hx rfl (pc0 := pc) (pc' := tgt) rfl (Jvm.hb hb hd) rfl (XT.i0_le_t c) (by rw [ht]; exact Int.natCast_nonneg _) (by rw [ht]; rfl) q) (yes c)
theorem ifl_eq (pc : Nat) (tgt : Nat) {o : Int} {x y : Int64} (hd : decode B.bs pc = .ok (.ifCond .eq o, 3)) (ht : (pc : Int) + o = (tgt : Int)) (yes : x = y → Go l Z a0 EL n0 kn B D Q h σ ce sl tgt Ls st) (no : ¬ (x = y) → Go l Z a0 EL n0 kn B D Q h σ ce sl (pc + 3) Ls st) : Go l Z a0 EL n0 kn B D Q h σ ce sl pc Ls (.int (XT.cmpL x y) :: st) := by
  by_cases c : x = y
  · exact Go.step (fun T hA hx hb t q => XS.ifYes hA hx rfl (pc0 := pc) (pc' := tgt) rfl (Jvm.hb hb hd) rfl (XT.ll_eq_t c) (by rw [ht]; exact Int.natCast_nonneg _) (by rw [ht]; rfl) q) (yes c)
  · exact Go.step (fun T hA hx hb t q => XS.ifNo hA hx rfl (Jvm.hb hb hd) rfl (XT.ll_eq_f c) q) (no c)
theorem ifl_ne (pc : Nat) (tgt : Nat) {o : Int} {x y : Int64} (hd : decode B.bs pc = .ok (.ifCond .ne o, 3)) (ht : (pc : Int) + o = (tgt : Int)) (yes : ¬ (x = y) → Go l Z a0 EL n0 kn B D Q h σ ce sl tgt Ls st) (no : x = y → Go l Z a0 EL n0 kn B D Q h σ ce sl (pc + 3) Ls st) : Go l Z a0 EL n0 kn B D Q h σ ce sl pc Ls (.int (XT.cmpL x y) :: st) := by
  by_cases c : x = y
  · exact Go.step (fun T hA hx hb t q => XS.ifNo hA hx rfl (Jvm.hb hb hd) rfl (XT.ll_ne_f c) q) (no c)
  · exact Go.step (fun T hA hx hb t q => XS.ifYes hA hx rfl (pc0 := pc) (pc' := tgt) rfl (Jvm.hb hb hd) rfl (XT.ll_ne_t c) (by rw [ht]; exact Int.natCast_nonneg _) (by rw [ht]; rfl) q) (yes c)
theorem ifl_lt (pc : Nat) (tgt : Nat) {o : Int} {x y : Int64} (hd : decode B.bs pc = .ok (.ifCond .lt o, 3)) (ht : (pc : Int) + o = (tgt : Int)) (yes : x < y → Go l Z a0 EL n0 kn B D Q h σ ce sl tgt Ls st) (no : ¬ (x < y) → Go l Z a0 EL n0 kn B D Q h σ ce sl (pc + 3) Ls st) : Go l Z a0 EL n0 kn B D Q h σ ce sl pc Ls (.int (XT.cmpL x y) :: st) := by
  by_cases c : x < y
  · exact Go.step (fun T hA hx hb t q => XS.ifYes hA hx rfl (pc0 := pc) (pc' := tgt) rfl (Jvm.hb hb hd) rfl (XT.ll_lt_t c) (by rw [ht]; exact Int.natCast_nonneg _) (by rw [ht]; rfl) q) (yes c)
  · exact Go.step (fun T hA hx hb t q => XS.ifNo hA hx rfl (Jvm.hb hb hd) rfl (XT.ll_lt_f c) q) (no c)
theorem ifl_ge (pc : Nat) (tgt : Nat) {o : Int} {x y : Int64} (hd : decode B.bs pc = .ok (.ifCond .ge o, 3)) (ht : (pc : Int) + o = (tgt : Int)) (yes : ¬ (x < y) → Go l Z a0 EL n0 kn B D Q h σ ce sl tgt Ls st) (no : x < y → Go l Z a0 EL n0 kn B D Q h σ ce sl (pc + 3) Ls st) : Go l Z a0 EL n0 kn B D Q h σ ce sl pc Ls (.int (XT.cmpL x y) :: st) := by
  by_cases c : x < y
  · exact Go.step (fun T hA hx hb t q => XS.ifNo hA hx rfl (Jvm.hb hb hd) rfl (XT.ll_ge_f c) q) (no c)
  · exact Go.step (fun T hA hx hb t q => XS.ifYes hA hx rfl (pc0 := pc) (pc' := tgt) rfl (Jvm.hb hb hd) rfl (XT.ll_ge_t c) (by rw [ht]; exact Int.natCast_nonneg _) (by rw [ht]; rfl) q) (yes c)
theorem ifl_gt (pc : Nat) (tgt : Nat) {o : Int} {x y : Int64} (hd : decode B.bs pc = .ok (.ifCond .gt o, 3)) (ht : (pc : Int) + o = (tgt : Int)) (yes : y < x → Go l Z a0 EL n0 kn B D Q h σ ce sl tgt Ls st) (no : ¬ (y < x) → Go l Z a0 EL n0 kn B D Q h σ ce sl (pc + 3) Ls st) : Go l Z a0 EL n0 kn B D Q h σ ce sl pc Ls (.int (XT.cmpL x y) :: st) := by
  by_cases c : y < x
  · exact Go.step (fun T hA hx hb t q => XS.ifYes hA hx rfl (pc0 := pc) (pc' := tgt) rfl (Jvm.hb hb hd) rfl (XT.ll_gt_t c) (by rw [ht]; exact Int.natCast_nonneg _) (by rw [ht]; rfl) q) (yes c)
  · exact Go.step (fun T hA hx hb t q => XS.ifNo hA hx rfl (Jvm.hb hb hd) rfl (XT.ll_gt_f c) q) (no c)
theorem ifl_le (pc : Nat) (tgt : Nat) {o : Int} {x y : Int64} (hd : decode B.bs pc = .ok (.ifCond .le o, 3)) (ht : (pc : Int) + o = (tgt : Int)) (yes : ¬ (y < x) → Go l Z a0 EL n0 kn B D Q h σ ce sl tgt Ls st) (no : y < x → Go l Z a0 EL n0 kn B D Q h σ ce sl (pc + 3) Ls st) : Go l Z a0 EL n0 kn B D Q h σ ce sl pc Ls (.int (XT.cmpL x y) :: st) := by
  by_cases c : y < x
  · exact Go.step (fun T hA hx hb t q => XS.ifNo hA hx rfl (Jvm.hb hb hd) rfl (XT.ll_le_f c) q) (no c)
  · exact Go.step (fun T hA hx hb t q => XS.ifYes hA hx rfl (pc0 := pc) (pc' := tgt) rfl (Jvm.hb hb hd) rfl (XT.ll_le_t c) (by rw [ht]; exact Int.natCast_nonneg _) (by rw [ht]; rfl) q) (yes c)
theorem ifnull (pc : Nat) (tgt : Nat) {o : Int} {v : Value} (hr : v.isRef = true) (hd : decode B.bs pc = .ok (.ifnull o, 3)) (ht : (pc : Int) + o = (tgt : Int)) (yes : v = .null → Go l Z a0 EL n0 kn B D Q h σ ce sl tgt Ls st) (no : ¬ (v = .null) → Go l Z a0 EL n0 kn B D Q h σ ce sl (pc + 3) Ls st) : Go l Z a0 EL n0 kn B D Q h σ ce sl pc Ls (v :: st) := by
  by_cases c : v = .null
  · exact Go.step (fun T hA hx hb t q => XT.nullYes hA hx rfl (pc0 := pc) (pc' := tgt) rfl (Jvm.hb hb hd) rfl c (by rw [ht]; exact Int.natCast_nonneg _) (by rw [ht]; rfl) q) (yes c)
  · exact Go.step (fun T hA hx hb t q => XT.nullNo hA hx rfl (Jvm.hb hb hd) rfl hr c q) (no c)
theorem ifnonnull (pc : Nat) (tgt : Nat) {o : Int} {v : Value} (hr : v.isRef = true) (hd : decode B.bs pc = .ok (.ifnonnull o, 3)) (ht : (pc : Int) + o = (tgt : Int)) (yes : ¬ (v = .null) → Go l Z a0 EL n0 kn B D Q h σ ce sl tgt Ls st) (no : v = .null → Go l Z a0 EL n0 kn B D Q h σ ce sl (pc + 3) Ls st) : Go l Z a0 EL n0 kn B D Q h σ ce sl pc Ls (v :: st) := by
  by_cases c : v = .null
  · exact Go.step (fun T hA hx hb t q => XT.nonnullNo hA hx rfl (Jvm.hb hb hd) rfl c q) (no c)
  · exact Go.step (fun T hA hx hb t q => XT.nonnullYes hA hx rfl (pc0 := pc) (pc' := tgt) rfl (Jvm.hb hb hd) rfl hr c (by rw [ht]; exact Int.natCast_nonneg _) (by rw [ht]; rfl) q) (yes c)
theorem acmp_eq (pc : Nat) (tgt : Nat) {o : Int} {v w : Value} (hv : v.isRef = true) (hw : w.isRef = true) (hd : decode B.bs pc = .ok (.if_acmp .eq o, 3)) (ht : (pc : Int) + o = (tgt : Int)) (yes : v = w → Go l Z a0 EL n0 kn B D Q h σ ce sl tgt Ls st) (no : ¬ (v = w) → Go l Z a0 EL n0 kn B D Q h σ ce sl (pc + 3) Ls st) : Go l Z a0 EL n0 kn B D Q h σ ce sl pc Ls (w :: v :: st) := by
  by_cases c : v = w
  · exact Go.step (fun T hA hx hb t q => XT.acmpYes hA hx rfl (pc0 := pc) (pc' := tgt) rfl (Jvm.hb hb hd) rfl hv hw (XT.aa_eq_t c) (by rw [ht]; exact Int.natCast_nonneg _) (by rw [ht]; rfl) q) (yes c)
  · exact Go.step (fun T hA hx hb t q => XT.acmpNo hA hx rfl (Jvm.hb hb hd) rfl hv hw (XT.aa_eq_f c) q) (no c)
theorem acmp_ne (pc : Nat) (tgt : Nat) {o : Int} {v w : Value} (hv : v.isRef = true) (hw : w.isRef = true) (hd : decode B.bs pc = .ok (.if_acmp .ne o, 3)) (ht : (pc : Int) + o = (tgt : Int)) (yes : ¬ (v = w) → Go l Z a0 EL n0 kn B D Q h σ ce sl tgt Ls st) (no : v = w → Go l Z a0 EL n0 kn B D Q h σ ce sl (pc + 3) Ls st) : Go l Z a0 EL n0 kn B D Q h σ ce sl pc Ls (w :: v :: st) := by
  by_cases c : v = w
  · exact Go.step (fun T hA hx hb t q => XT.acmpNo hA hx rfl (Jvm.hb hb hd) rfl hv hw (XT.aa_ne_f c) q) (no c)
  · exact Go.step (fun T hA hx hb t q => XT.acmpYes hA hx rfl (pc0 := pc) (pc' := tgt) rfl (Jvm.hb hb hd) rfl hv hw (XT.aa_ne_t c) (by rw [ht]; exact Int.natCast_nonneg _) (by rw [ht]; rfl) q) (yes c)
end Plain
end Jvm.Road
namespace Jvm.Road
open Jvm Jvm.ClassFile Sem Op Lib Jvm.Free Jvm.Stand Jvm.LawKit Jvm.RoadKit Bundle
section Facts
variable {Z : State} {h h' : Heap} {a b : Addr} {ty : FieldType} {vs : List Value} {ws : List Addr}
/-- the array at a holds just these values -/
def Ary (Z : State) (h : Heap) (a : Addr) (ty : FieldType) (vs : List Value) : Prop := ∃ c : Cell, Arr Z h a c ty ∧ c.slots.toList = vs ∧ vs.length < 2147483648 ∧ ∀ v ∈ vs, fits ty v = true
theorem Ary.keep (F : Ary Z h a ty vs) (K : Keep h h' ws) (q : a ∉ ws) : Ary Z h' a ty vs := by
  obtain ⟨c, A, r⟩ := F; exact ⟨c, ⟨K.2.1 a c A.1 q, A.2⟩, r⟩
theorem Ary.lt (F : Ary Z h a ty vs) : a < h.size := by obtain ⟨c, A, -⟩ := F; exact A.lt
theorem Ary.small (F : Ary Z h a ty vs) : vs.length < 2147483648 := by obtain ⟨c, A, -, q, -⟩ := F; exact q
theorem Ary.fit (F : Ary Z h a ty vs) : ∀ v ∈ vs, fits ty v = true := by obtain ⟨c, A, -, -, q⟩ := F; exact q
theorem Ary.wr {i : Nat} {v : Value} (F : Ary Z h a ty vs) (W : Wr h h' a i v) (hv : fits ty v = true) : Ary Z h' a ty (vs.set i v) := by
  obtain ⟨c, A, e, q, f⟩ := F
  refine ⟨_, Arr.same W A, ?_, by rw [List.length_set]; exact q, fun u hu => ?_⟩
  · show (c.slots.setIfInBounds i v).toList = _
    rw [Array.toList_setIfInBounds, e]
  · rcases List.mem_or_eq_of_mem_set hu with r | r
    · exact f u r
    · exact r ▸ hv
theorem ix_of {j : Int32} {i : Nat} (hj : j.toInt = (i : Int)) : ¬ j < 0 ∧ j.toNatClampNeg = i := by
  refine ⟨?_, ?_⟩
  · simp only [Int32.lt_iff_toInt_lt, hj, Int32.reduceToInt]; omega
  · simp only [Int32.toNatClampNeg, hj]; omega
theorem Ary.inb {c : Cell} {j : Int32} {i : Nat} (e : c.slots.toList = vs) (hj : j.toInt = (i : Int)) (hi : i < vs.length) : ¬ (j < 0 ∨ c.slots.size ≤ j.toNatClampNeg) := by
  obtain ⟨q1, q2⟩ := ix_of hj
  rw [q2, ← Array.length_toList, e]
  intro q; rcases q with q | q
  · exact q1 q
  · omega
theorem Ary.of_arv {k : ClassId} {z : Int32} {d : Value} (F : Arv Z h a k ty z vs d) (hz : z.toNatClampNeg = vs.length) : Ary Z h a ty vs := by
  obtain ⟨c, A, -, S, hn, H, G⟩ := F
  have hsz : c.slots.size = vs.length := S.trans hz
  have e : c.slots.toList = vs := by
    apply List.ext_getElem?
    intro i
    by_cases hi : i < vs.length
    · have := H i (by rw [hsz]; exact hi)
      rw [Array.getElem?_toList, this, List.getD_eq_getElem?_getD, List.getElem?_eq_getElem hi]; rfl
    · rw [List.getElem?_eq_none (Nat.le_of_not_lt hi), List.getElem?_eq_none (by rw [Array.length_toList, hsz]; exact Nat.le_of_not_lt hi)]
  refine ⟨c, A, e, by have := Int32.toInt_lt z; simp only [Int32.toNatClampNeg] at hz; omega, fun v hv => ?_⟩
  obtain ⟨i, hi, rfl⟩ := List.getElem_of_mem hv
  have := G i (by rw [hsz]; exact hi)
  rwa [List.getD_eq_getElem?_getD, List.getElem?_eq_getElem hi] at this
def byt (c : Int32) : Value := .int c.toInt8.toInt32
abbrev SN : String := "java/lang/String"
/-- the object at a is a compact String of these chars, its bytes at b -/
def Str (Z : State) (h : Heap) (a b : Addr) (cs : List Int32) : Prop := Exa Z h a SN ∧ Fld Z h a SN "coder" "B" (.int 0) ∧ Fld Z h a SN "value" "[B" (.ref b) ∧ Ary Z h b .byte (cs.map byt) ∧ ∀ c ∈ cs, 0 ≤ c.toInt ∧ c.toInt < 256
theorem Str.keep {cs : List Int32} (F : Str Z h a b cs) (K : Keep h h' ws) (q : a ∉ ws) (q' : b ∉ ws) : Str Z h' a b cs := ⟨F.1.keep K, F.2.1.keep K q, F.2.2.1.keep K q, F.2.2.2.1.keep K q', F.2.2.2.2⟩
theorem Str.lt {cs : List Int32} (F : Str Z h a b cs) : a < h.size := F.1.lt
theorem Str.ltb {cs : List Int32} (F : Str Z h a b cs) : b < h.size := F.2.2.2.1.lt
theorem keep_ext (E : Ext h h') : Keep h h' [] := (Keep.refl h []).ext E
end Facts
section Heap
variable {l : Launch} {Z : State} {a0 : Array Value} {EL : List (String × Nat)} {n0 : Nat} {kn : Bool} {B : Bdy} {D : Dyn} {Q : Post} {h : Heap} {σ : Addr → Prop} {ce sl : Nat} {Ls : Array Slot} {st : List Value} {a : Addr}
theorem getfield (pc : Nat) {ix : Nat} {R0 O n d : String} {v : Value} (hd : decode B.bs pc = .ok (.getfield ix, 3)) (w : (Jvm.Cond.fieldLink B.y.cls ix R0 n d).before a0 Z = true) (via : Via Z R0 O n d) (F : Fld Z h a O n d v)
    (r : Go l Z a0 EL n0 kn B D Q h σ ce sl (pc + 3) Ls (v :: st)) : Go l Z a0 EL n0 kn B D Q h σ ce sl pc Ls (.ref a :: st) := by
  intro ok ew T vm0 I
  obtain ⟨k0, locs, X, h1, h2, h3, h4, h5, h6, h7, h8, h9, h10⟩ := I
  obtain ⟨T', X', e', s'⟩ := getF X ok.1 (s := D.s.setVm vm0) h4 h5 (host := "") (Or.inl w) via h1 F (g := mkF D.m pc Ls (.ref a :: st)) rfl rfl (Jvm.hb ok.2.1 hd)
  obtain ⟨s2, o, q, rest⟩ := r ok ew T' vm0 ⟨k0, locs, X', e', h2, h3, h4, h5, h6, h7, h8, h9, h10⟩
  exact ⟨s2, o, s' _ q, rest⟩
theorem own_wr {vm0 : Vm} {h' : Heap} {i : Nat} {v : Value} (W : Wr h h' a i v) (hC : CHv Z EL vm0 h) (ha : Own Z EL n0 vm0 h a) {x : Addr} (hx : Own Z EL n0 vm0 h x) : Own Z EL n0 vm0 h' x :=
  ⟨Safe.wr W ha.1 hC hx.1, hx.2.1, by rw [W.size]; exact hx.2.2⟩
/-- behind a write of one place -/
theorem wrote {pc pc' : Nat} {Ls' : Array Slot} {st' : List Value} {i : Nat} {v : Value} (hσ : σ a)
    (s : ∀ T vm0 locs, Stand D.p l D.e B.rm (D.s.setVm vm0) D.m D.args D.bl D.meth D.c T locs ce sl → T.heap = h → Z.Warmed39 vm0 → vm0.findClass B.y.cls = some D.m.cls → Ok B D →
      ∃ T' h', Stand D.p l D.e B.rm (D.s.setVm vm0) D.m D.args D.bl D.meth D.c T' (locs ++ [⟨a, i⟩]) ce sl ∧ T'.heap = h' ∧ Wr h h' a i v ∧ ∀ target, Steps D.p.tables D.e D.bl (T'.setTop (mkF D.m pc' Ls' st')) target → Steps D.p.tables D.e D.bl (T.setTop (mkF D.m pc Ls st)) target)
    (r : ∀ h', Wr h h' a i v → Keep h h' [a] → Go l Z a0 EL n0 kn B D Q h' σ ce sl pc' Ls' st') : Go l Z a0 EL n0 kn B D Q h σ ce sl pc Ls st := by
  intro ok ew T vm0 I
  obtain ⟨k0, locs, X, h1, h2, h3, h4, h5, h6, h7, h8, h9, h10⟩ := I
  obtain ⟨T', h', X', e', W, s'⟩ := s T vm0 locs X h1 h4 h5 ok
  have ha := h9 a hσ
  obtain ⟨s2, o, q, rest⟩ := r h' W (Keep.of_wr W) ok ew T' vm0 ⟨k0, _, X', e', h2, by rw [W.size]; exact h3, h4, h5, h6.trans (CHr.wr W ha.1 h6.1), h7.app fun y hy => by cases List.mem_singleton.mp hy; exact ha.2.1, h8.wr W ha.2.1, fun x hx => own_wr W h6.1 ha (h9 x hx), h10⟩
  exact ⟨s2, o, s' _ q, rest⟩
theorem putfield (pc : Nat) {ix : Nat} {R0 O n d C : String} {kk : Nat} {ty : FieldType} {v old : Value} (hd : decode B.bs pc = .ok (.putfield ix, 3)) (w : (Jvm.Cond.fieldLink B.y.cls ix R0 n d).before a0 Z = true) (via : Via Z R0 O n d) (F : Fld Z h a O n d old) (E : Exa Z h a C)
    (L : (Jvm.Cond.lays C O n d).before a0 Z = true ∨ ((Jvm.Cond.laysFinal C O n d).before a0 Z = true ∧ B.y.cls = O ∧ B.y.name = "<init>")) (wi : (Jvm.Cond.instantiable C kk).before a0 Z = true) (hty : parseFieldDescriptor d = some ty) (hn : narrow ty v = v) (hf : fits ty v = true) (hσ : σ a)
    (r : ∀ h', Wr h h' a (RoadKit.slotOf Z O n d) v → Keep h h' [a] → Go l Z a0 EL n0 kn B D Q h' σ ce sl (pc + 3) Ls st) : Go l Z a0 EL n0 kn B D Q h σ ce sl pc Ls (v :: .ref a :: st) :=
  wrote hσ (fun T vm0 locs X h1 h4 h5 ok => putF X ok.1 (s := D.s.setVm vm0) h4 h5 (host := "") (Or.inl w) via h1 F E (L.imp id fun q => ⟨q.1, q.2.1, ok.2.2.2.2.2.trans q.2.2⟩) wi hty hn hf (g := mkF D.m pc Ls (v :: .ref a :: st)) rfl rfl (Jvm.hb ok.2.1 hd)) r
theorem getstatic (pc : Nat) {ix : Nat} {R0 O n d : String} {v : Value} (hd : decode B.bs pc = .ok (.getstatic ix, 3)) (w : (Jvm.Cond.fieldLink B.y.cls ix R0 n d).before a0 Z = true) (via : Via Z R0 O n d) (F : Sta Z Z.heap O n d v)
    (r : Go l Z a0 EL n0 kn B D Q h σ ce sl (pc + 3) Ls (v :: st)) : Go l Z a0 EL n0 kn B D Q h σ ce sl pc Ls st := by
  intro ok ew T vm0 I
  obtain ⟨k0, locs, X, h1, h2, h3, h4, h5, h6, h7, h8, h9, h10⟩ := I
  obtain ⟨T', X', e', s'⟩ := getS X ok.1 (s := D.s.setVm vm0) h4 h5 (host := "") w via h1 (F.ext h8.2) (g := mkF D.m pc Ls st) rfl (Jvm.hb ok.2.1 hd)
  obtain ⟨s2, o, q, rest⟩ := r ok ew T' vm0 ⟨k0, locs, X', e', h2, h3, h4, h5, h6, h7, h8, h9, h10⟩
  exact ⟨s2, o, s' _ q, rest⟩
theorem own_new {vm0 : Vm} {h' : Heap} (E : Ext h h') (hC : CHv Z EL vm0 h) (hO : Old Z n0 h) (hlt : h.size < h'.size) : Own Z EL n0 vm0 h' h.size :=
  ⟨(Safe.new (Nat.le_refl _)).ext E hC, hO.1 ▸ hO.2.1, hlt⟩
/-- behind the making of one cell -/
theorem made {pc pc' ce' sl' : Nat} {Ls' : Array Slot} {st' : List Value} {P : Heap → Prop}
    (s : ∀ T vm0 locs, Stand D.p l D.e B.rm (D.s.setVm vm0) D.m D.args D.bl D.meth D.c T locs ce sl → T.heap = h → Z.Warmed39 vm0 → vm0.findClass B.y.cls = some D.m.cls → Ok B D →
      ∃ T' h', Stand D.p l D.e B.rm (D.s.setVm vm0) D.m D.args D.bl D.meth D.c T' locs ce' sl' ∧ T'.heap = h' ∧ Ext h h' ∧ h.size < h'.size ∧ P h' ∧ ∀ target, Steps D.p.tables D.e D.bl (T'.setTop (mkF D.m pc' Ls' st')) target → Steps D.p.tables D.e D.bl (T.setTop (mkF D.m pc Ls st)) target)
    (r : ∀ h' σ', Keep h h' [] → h.size < h'.size → (∀ x, σ x → σ' x) → σ' h.size → P h' → Go l Z a0 EL n0 kn B D Q h' σ' ce' sl' pc' Ls' st') : Go l Z a0 EL n0 kn B D Q h σ ce sl pc Ls st := by
  intro ok ew T vm0 I
  obtain ⟨k0, locs, X, h1, h2, h3, h4, h5, h6, h7, h8, h9, h10⟩ := I
  obtain ⟨T', h', X', e', E, hlt, hP, s'⟩ := s T vm0 locs X h1 h4 h5 ok
  obtain ⟨s2, o, q, rest⟩ := r h' (Own Z EL n0 vm0 h') (keep_ext E) hlt (fun x hx => ⟨(h9 x hx).1.ext E h6.1, (h9 x hx).2.1, Nat.lt_of_lt_of_le (h9 x hx).2.2 E.1⟩) (own_new E h6.1 h8 hlt) hP ok ew T' vm0
    ⟨k0, locs, X', e', h2, Nat.le_trans h3 E.1, h4, h5, h6.trans (CHr.ext E h6.1), h7, h8.ext E, fun x hx => hx, h10⟩
  exact ⟨s2, o, s' _ q, rest⟩
theorem new (pc : Nat) {ix : Nat} (C : String) {n : Nat} (hd : decode B.bs pc = .ok (.new ix, 3)) (w : (Jvm.Cond.classLink B.y.cls ix C).before a0 Z = true) (wi : (Jvm.Cond.instantiable C n).before a0 Z = true) (wz : (Jvm.Cond.initialized C).before a0 Z = true) {ce' sl' : Nat} (hce : ce + 1 = ce') (hsl : sl + n = sl') (hc : ce' ≤ B.rm.cells) (hs : sl' ≤ B.rm.slots)
    (r : ∀ a h' σ', a = h.size → Keep h h' [] → a < h'.size → (∀ x, σ x → σ' x) → σ' a → Exa Z h' a C → (∀ {O nm d : String} {ty : FieldType}, Laid Z a0 C O nm d → parseFieldDescriptor d = some ty → Fld Z h' a O nm d (defaultValue ty)) → (∃ cell : Cell, h'[a]? = some cell ∧ cell.vm = .none ∧ cell.monitor = {}) →
      Go l Z a0 EL n0 kn B D Q h' σ' ce' sl' (pc + 3) Ls (.ref a :: st)) : Go l Z a0 EL n0 kn B D Q h σ ce sl pc Ls st := by
  subst hce hsl
  exact made (P := fun h' => Exa Z h' h.size C ∧ (∀ {O nm d : String} {ty : FieldType}, Laid Z a0 C O nm d → parseFieldDescriptor d = some ty → Fld Z h' h.size O nm d (defaultValue ty)) ∧ (∃ cell : Cell, h'[h.size]? = some cell ∧ cell.vm = .none ∧ cell.monitor = {}))
    (fun T vm0 locs X h1 h4 h5 ok => by
      obtain ⟨T', h', X', e', E, A, Dd, M, s'⟩ := newO X ok.1 (s := D.s.setVm vm0) h4 h5 w wi wz h1 (g := mkF D.m pc Ls st) rfl (Jvm.hb ok.2.1 hd) hc hs
      exact ⟨T', h', X', e', E, A.lt, ⟨A, Dd, M⟩, s'⟩)
    (fun h' σ' K hlt m1 m2 P => r h.size h' σ' rfl K hlt m1 m2 P.1 P.2.1 P.2.2)
theorem newarray (pc : Nat) {aty : ArrayType} (ty : FieldType) (n cap : Nat) {z : Int32} (hd : decode B.bs pc = .ok (.newarray aty, 2)) (hty : newarray.typeOf aty = ty) (w : (Jvm.Cond.arrayClass ty).before a0 Z = true) (hz : z.toInt = (n : Int)) (hcap : n ≤ cap) (hb : cap * 8 ≤ 536870912) {ce' sl' : Nat} (hce : ce + 1 = ce') (hsl : sl + cap = sl') (hc : ce' ≤ B.rm.cells) (hs : sl' ≤ B.rm.slots)
    (r : ∀ a h' σ', a = h.size → Keep h h' [] → a < h'.size → (∀ x, σ x → σ' x) → σ' a → Ary Z h' a ty (List.replicate n (defaultValue ty)) → Go l Z a0 EL n0 kn B D Q h' σ' ce' sl' (pc + 2) Ls (.ref a :: st)) : Go l Z a0 EL n0 kn B D Q h σ ce sl pc Ls (.int z :: st) := by
  subst hce hsl
  exact made (P := fun h' => Ary Z h' h.size ty (List.replicate n (defaultValue ty)))
    (fun T vm0 locs X h1 h4 h5 ok => by
      subst hty
      obtain ⟨q1, q2⟩ := ix_of hz
      obtain ⟨T', h', cA, X', e', E, A, s'⟩ := newP X ok.1 (s := D.s.setVm vm0) h4 w h1 (g := mkF D.m pc Ls (.int z :: st)) rfl (Jvm.hb ok.2.1 hd) rfl q1 (cap := cap) (by rw [q2]; exact hcap) hb hc hs
      refine ⟨T', h', X', e', E, A.lt, ⟨_, A, ?_, ?_, ?_⟩, s'⟩
      · show (Array.replicate z.toNatClampNeg (defaultValue (newarray.typeOf aty))).toList = _
        rw [q2, Array.toList_replicate]
      · rw [List.length_replicate]; omega
      · intro v hv
        rw [(List.mem_replicate.mp hv).2]
        cases aty <;> rfl)
    (fun h' σ' K hlt m1 m2 P => r h.size h' σ' rfl K hlt m1 m2 P)
theorem plainX {pc pc' : Nat} {Ls' : Array Slot} {st' : List Value}
    (k : ∀ T vm0 locs, Stand D.p l D.e B.rm (D.s.setVm vm0) D.m D.args D.bl D.meth D.c T locs ce sl → T.heap = h → Z.Warmed39 vm0 → vm0.findClass B.y.cls = some D.m.cls → Ok B D → ∀ t, Steps D.p.tables D.e D.bl (T.setTop (mkF D.m pc' Ls' st')) t → Steps D.p.tables D.e D.bl (T.setTop (mkF D.m pc Ls st)) t)
    (r : Go l Z a0 EL n0 kn B D Q h σ ce sl pc' Ls' st') : Go l Z a0 EL n0 kn B D Q h σ ce sl pc Ls st := by
  intro ok ew T vm0 I
  obtain ⟨s2, o, q, rest⟩ := r ok ew T vm0 I
  obtain ⟨k0, locs, X, h1, h2, h3, h4, h5, -⟩ := I
  exact ⟨s2, o, k T vm0 locs X h1 h4 h5 ok _ q, rest⟩
theorem alen (pc : Nat) {ty : FieldType} {vs : List Value} {n : Nat} (z : Int32) (hd : decode B.bs pc = .ok (.arraylength, 1)) (A : Ary Z h a ty vs) (hn : vs.length = n) (hz : n.toInt32 = z) (r : Go l Z a0 EL n0 kn B D Q h σ ce sl (pc + 1) Ls (.int z :: st)) : Go l Z a0 EL n0 kn B D Q h σ ce sl pc Ls (.ref a :: st) :=
  plainX (fun T vm0 locs X h1 h4 h5 ok t q => by
    obtain ⟨c, A, e, -⟩ := A
    refine X.arraylength ok.1 (by rw [h1]; exact A.1) (State.isArrayOf_alike (T := D.s.setVm vm0) h4.alike A.2.1) (g := mkF D.m pc Ls (.ref a :: st)) rfl rfl (Jvm.hb ok.2.1 hd) t ?_
    rw [← Array.length_toList, e, hn, hz]; exact q) r
theorem caload (pc : Nat) {vs : List Value} {j : Int32} (i : Nat) {v : Value} (hd : decode B.bs pc = .ok (.caload, 1)) (A : Ary Z h a .char vs) (hj : j.toInt = (i : Int)) (hv : vs[i]? = some v) (r : Go l Z a0 EL n0 kn B D Q h σ ce sl (pc + 1) Ls (v :: st)) : Go l Z a0 EL n0 kn B D Q h σ ce sl pc Ls (.int j :: .ref a :: st) :=
  plainX (fun T vm0 locs X h1 h4 h5 ok t q => by
    obtain ⟨c, A, e, -⟩ := A
    have hi : i < vs.length := (List.getElem?_eq_some_iff.mp hv).1
    exact X.caload ok.1 (by rw [h1]; exact A.1) (State.isArrayOf_alike (T := D.s.setVm vm0) h4.alike A.2.1) A.2.2 (Ary.inb e hj hi) (by rw [(ix_of hj).2, ← Array.getElem?_toList, e]; exact hv) (g := mkF D.m pc Ls (.int j :: .ref a :: st)) rfl rfl (Jvm.hb ok.2.1 hd) t q) r
theorem baload (pc : Nat) {vs : List Value} {j : Int32} (i : Nat) {v : Value} (hd : decode B.bs pc = .ok (.baload, 1)) (A : Ary Z h a .byte vs) (hj : j.toInt = (i : Int)) (hv : vs[i]? = some v) (r : Go l Z a0 EL n0 kn B D Q h σ ce sl (pc + 1) Ls (v :: st)) : Go l Z a0 EL n0 kn B D Q h σ ce sl pc Ls (.int j :: .ref a :: st) :=
  plainX (fun T vm0 locs X h1 h4 h5 ok t q => by
    obtain ⟨c, A, e, -⟩ := A
    have hi : i < vs.length := (List.getElem?_eq_some_iff.mp hv).1
    exact X.baloadBytes ok.1 (by rw [h1]; exact A.1) (State.isArrayOf_alike (T := D.s.setVm vm0) h4.alike A.2.1) A.2.2 (Ary.inb e hj hi) (by rw [(ix_of hj).2, ← Array.getElem?_toList, e]; exact hv) (g := mkF D.m pc Ls (.int j :: .ref a :: st)) rfl rfl (Jvm.hb ok.2.1 hd) t q) r
theorem laload (pc : Nat) {vs : List Value} {j : Int32} (i : Nat) {v : Value} (hd : decode B.bs pc = .ok (.laload, 1)) (A : Ary Z h a .long vs) (hj : j.toInt = (i : Int)) (hv : vs[i]? = some v) (r : Go l Z a0 EL n0 kn B D Q h σ ce sl (pc + 1) Ls (v :: st)) : Go l Z a0 EL n0 kn B D Q h σ ce sl pc Ls (.int j :: .ref a :: st) :=
  plainX (fun T vm0 locs X h1 h4 h5 ok t q => by
    obtain ⟨c, A, e, -⟩ := A
    have hi : i < vs.length := (List.getElem?_eq_some_iff.mp hv).1
    exact X.laload ok.1 (by rw [h1]; exact A.1) (State.isArrayOf_alike (T := D.s.setVm vm0) h4.alike A.2.1) A.2.2 (Ary.inb e hj hi) (by rw [(ix_of hj).2, ← Array.getElem?_toList, e]; exact hv) (g := mkF D.m pc Ls (.int j :: .ref a :: st)) rfl rfl (Jvm.hb ok.2.1 hd) t q) r
theorem castore (pc : Nat) {vs : List Value} {j x : Int32} (i : Nat) (w : Int32) (hd : decode B.bs pc = .ok (.castore, 1)) (A : Ary Z h a .char vs) (hj : j.toInt = (i : Int)) (hi : i < vs.length) (hw : nar .char x = w) (hσ : σ a)
    (r : ∀ h', Keep h h' [a] → Ary Z h' a .char (vs.set i (.int w)) → Go l Z a0 EL n0 kn B D Q h' σ ce sl (pc + 1) Ls st) : Go l Z a0 EL n0 kn B D Q h σ ce sl pc Ls (.int x :: .int j :: .ref a :: st) :=
  wrote hσ (i := i) (v := .int w) (fun T vm0 locs X h1 h4 h5 ok => by
    subst hw
    obtain ⟨c, Ar, e, -⟩ := A
    have := stC X ok.1 (s := D.s.setVm vm0) h4 h1 Ar (Ary.inb e hj hi) (g := mkF D.m pc Ls (.int x :: .int j :: .ref a :: st)) rfl rfl (Jvm.hb ok.2.1 hd)
    rw [(ix_of hj).2] at this; exact this)
    (fun h' W K => r h' K (A.wr W (hw ▸ fits_nar_char x)))
theorem bastore (pc : Nat) {vs : List Value} {j x : Int32} (i : Nat) (w : Int32) (hd : decode B.bs pc = .ok (.bastore, 1)) (A : Ary Z h a .byte vs) (hj : j.toInt = (i : Int)) (hi : i < vs.length) (hw : nar .byte x = w) (hσ : σ a)
    (r : ∀ h', Keep h h' [a] → Ary Z h' a .byte (vs.set i (.int w)) → Go l Z a0 EL n0 kn B D Q h' σ ce sl (pc + 1) Ls st) : Go l Z a0 EL n0 kn B D Q h σ ce sl pc Ls (.int x :: .int j :: .ref a :: st) :=
  wrote hσ (i := i) (v := .int w) (fun T vm0 locs X h1 h4 h5 ok => by
    subst hw
    obtain ⟨c, Ar, e, -⟩ := A
    have := stB X ok.1 (s := D.s.setVm vm0) h4 h1 Ar (Ary.inb e hj hi) (g := mkF D.m pc Ls (.int x :: .int j :: .ref a :: st)) rfl rfl (Jvm.hb ok.2.1 hd)
    rw [(ix_of hj).2] at this; exact this)
    (fun h' W K => r h' K (A.wr W (hw ▸ fits_nar_byte x)))
theorem lastore (pc : Nat) {vs : List Value} {j : Int32} {x : Int64} (i : Nat) (hd : decode B.bs pc = .ok (.lastore, 1)) (A : Ary Z h a .long vs) (hj : j.toInt = (i : Int)) (hi : i < vs.length) (hσ : σ a)
    (r : ∀ h', Keep h h' [a] → Ary Z h' a .long (vs.set i (.long x)) → Go l Z a0 EL n0 kn B D Q h' σ ce sl (pc + 1) Ls st) : Go l Z a0 EL n0 kn B D Q h σ ce sl pc Ls (.long x :: .int j :: .ref a :: st) :=
  wrote hσ (i := i) (v := .long x) (fun T vm0 locs X h1 h4 h5 ok => by
    obtain ⟨c, Ar, e, -⟩ := A
    have := stJ X ok.1 (s := D.s.setVm vm0) h4 h1 Ar (Ary.inb e hj hi) (g := mkF D.m pc Ls (.long x :: .int j :: .ref a :: st)) rfl rfl (Jvm.hb ok.2.1 hd)
    rw [(ix_of hj).2] at this; exact this)
    (fun h' W K => r h' K (A.wr W rfl))
theorem ldcI (pc : Nat) {ix : Nat} {v : Int32} (hd : decode B.bs pc = .ok (.ldc ix, 2)) (w : (Jvm.Cond.constant B.y.cls ix v).before a0 Z = true) (r : Go l Z a0 EL n0 kn B D Q h σ ce sl (pc + 2) Ls (.int v :: st)) : Go l Z a0 EL n0 kn B D Q h σ ce sl pc Ls st :=
  plainX (fun T vm0 locs X h1 h4 h5 ok t q => X.ldcI ok.1 (own := B.y.cls) h5 (mv (s := D.s.setVm vm0) h4 w) (g := mkF D.m pc Ls st) rfl (Jvm.hb ok.2.1 hd) q) r
theorem ldc2J (pc : Nat) {ix : Nat} {v : Int64} (hd : decode B.bs pc = .ok (.ldc2_w ix, 3)) (w : (Jvm.Cond.constantLong B.y.cls ix v).before a0 Z = true) (r : Go l Z a0 EL n0 kn B D Q h σ ce sl (pc + 3) Ls (.long v :: st)) : Go l Z a0 EL n0 kn B D Q h σ ce sl pc Ls st :=
  plainX (fun T vm0 locs X h1 h4 h5 ok t q => X.ldc2J ok.1 (own := B.y.cls) h5 (mv (s := D.s.setVm vm0) h4 w) (g := mkF D.m pc Ls st) rfl (Jvm.hb ok.2.1 hd) q) r
end Heap
end Jvm.Road
namespace Jvm.Road
open Jvm Jvm.ClassFile Sem Op Lib Jvm.Free Jvm.Stand Jvm.LawKit Jvm.RoadKit Bundle
section Cast
variable {l : Launch} {Z : State} {a0 : Array Value} {EL : List (String × Nat)} {n0 : Nat} {kn : Bool} {B : Bdy} {D : Dyn} {Q : Post} {h : Heap} {σ : Addr → Prop} {ce sl : Nat} {Ls : Array Slot} {st : List Value} {a : Addr}
theorem instYes (pc : Nat) {ix : Nat} {K : String} (hd : decode B.bs pc = .ok (.instanceof ix, 3)) (w : (Jvm.Cond.classLink B.y.cls ix K).before a0 Z = true) (F : Ins Z h a K true) (r : Go l Z a0 EL n0 kn B D Q h σ ce sl (pc + 3) Ls (.int 1 :: st)) : Go l Z a0 EL n0 kn B D Q h σ ce sl pc Ls (.ref a :: st) := by
  intro ok ew T vm0 I
  obtain ⟨k0, locs, X, h1, h2, h3, h4, h5, h6, h7, h8, h9, h10⟩ := I
  obtain ⟨T', X', e', s'⟩ := instY X ok.1 (s := D.s.setVm vm0) h4 h5 w h1 F (g := mkF D.m pc Ls (.ref a :: st)) rfl rfl (Jvm.hb ok.2.1 hd)
  obtain ⟨s2, o, q, rest⟩ := r ok ew T' vm0 ⟨k0, locs, X', e', h2, h3, h4, h5, h6, h7, h8, h9, h10⟩
  exact ⟨s2, o, s' _ q, rest⟩
theorem castYes (pc : Nat) {ix : Nat} {K : String} (hd : decode B.bs pc = .ok (.checkcast ix, 3)) (w : (Jvm.Cond.classLink B.y.cls ix K).before a0 Z = true) (F : Ins Z h a K true) (r : Go l Z a0 EL n0 kn B D Q h σ ce sl (pc + 3) Ls (.ref a :: st)) : Go l Z a0 EL n0 kn B D Q h σ ce sl pc Ls (.ref a :: st) := by
  intro ok ew T vm0 I
  obtain ⟨k0, locs, X, h1, h2, h3, h4, h5, h6, h7, h8, h9, h10⟩ := I
  obtain ⟨T', X', e', s'⟩ := castY X ok.1 (s := D.s.setVm vm0) h4 h5 w h1 F (g := mkF D.m pc Ls (.ref a :: st)) rfl rfl (Jvm.hb ok.2.1 hd)
  obtain ⟨s2, o, q, rest⟩ := r ok ew T' vm0 ⟨k0, locs, X', e', h2, h3, h4, h5, h6, h7, h8, h9, h10⟩
  exact ⟨s2, o, s' _ q, rest⟩
end Cast
theorem Fld.uniq {Z : State} {h : Heap} {a : Addr} {C n d : String} {v w : Value} (F : Fld Z h a C n d v) (G : Fld Z h a C n d w) : v = w := by
  obtain ⟨c1, _, _, _, f1, a1, a2, -, -, -, -, a7⟩ := F
  obtain ⟨c2, _, _, _, f2, b1, b2, -, -, -, -, b7⟩ := G
  cases a1.symm.trans b1
  have q := a2.symm.trans b2
  simp only [Option.some.injEq, Prod.mk.injEq] at q
  obtain ⟨-, -, -, rfl⟩ := q
  exact Option.some.inj (a7.symm.trans b7)
theorem Ary.uniq {Z : State} {h : Heap} {a : Addr} {ty ty' : FieldType} {vs ws : List Value} (F : Ary Z h a ty vs) (G : Ary Z h a ty' ws) : vs = ws := by
  obtain ⟨c1, A1, e1, -⟩ := F
  obtain ⟨c2, A2, e2, -⟩ := G
  cases A1.1.symm.trans A2.1
  exact e1.symm.trans e2
end Jvm.Road
namespace Jvm.Road
open Jvm Jvm.ClassFile Sem Op Lib Jvm.Free Jvm.Stand Jvm.LawKit Jvm.RoadKit Bundle
section Clone
variable {l : Launch} {Z : State} {a0 : Array Value} {EL : List (String × Nat)} {n0 : Nat} {kn : Bool} {B : Bdy} {D : Dyn} {Q : Post} {h : Heap} {σ : Addr → Prop} {ce sl : Nat} {Ls : Array Slot} {st : List Value} {a : Addr}
theorem cloneArr (pc : Nat) {ix : Nat} {ad : String} {ty : FieldType} {vs : List Value} (W cap : Nat) (hd : decode B.bs pc = .ok (.invokevirtual ix, 3))
    (w1 : (Jvm.Cond.methodLink B.y.cls ix ⟨ad, "clone", "()Ljava/lang/Object;"⟩).before a0 Z = true) (w2 : (Jvm.Cond.sameMethod ad "java/lang/Object" "clone" "()Ljava/lang/Object;").before a0 Z = true) (w3 : (Jvm.Cond.native ⟨"java/lang/Object", "clone", "()Ljava/lang/Object;"⟩).before a0 Z = true)
    (w4 : (Jvm.Cond.instanceMethod ⟨"java/lang/Object", "clone", "()Ljava/lang/Object;"⟩).before a0 Z = true) (w5 : (Jvm.Cond.selects ad ⟨ad, "clone", "()Ljava/lang/Object;"⟩ ⟨"java/lang/Object", "clone", "()Ljava/lang/Object;"⟩).before a0 Z = true) (w6 : (Jvm.Cond.castable ad "java/lang/Cloneable").before a0 Z = true)
    (A : Ary Z h a ty vs) (E : Exa Z h a ad) (hW : (st.map fun v => v.category).sum = W) (hsz : Ls.size = B.ml) (hf : 1 ≤ B.rm.frames) (hl : W + 14 ≤ B.rm.locals) (hcap : vs.length ≤ cap) {ce' sl' : Nat} (hce : ce + 1 = ce') (hsl : sl + cap = sl') (hc : ce' ≤ B.rm.cells) (hs : sl' ≤ B.rm.slots)
    (r : ∀ b h' σ', b = h.size → Keep h h' [] → b < h'.size → (∀ x, σ x → σ' x) → σ' b → Ary Z h' b ty vs → Exa Z h' b ad → Go l Z a0 EL n0 kn B D Q h' σ' ce' sl' (pc + 3) Ls (.ref b :: st)) : Go l Z a0 EL n0 kn B D Q h σ ce sl pc Ls (.ref a :: st) := by
  subst hce hsl
  exact made (P := fun h' => Ary Z h' h.size ty vs ∧ Exa Z h' h.size ad)
    (fun T vm0 locs X h1 h4 h5 ok => by
      obtain ⟨cl, Ar, e, q, f⟩ := A
      obtain ⟨T', h', X', e', ex, A', E', s'⟩ := cloneA X ok.1 (s := D.s.setVm vm0) h4 h5 w1 w2 w3 w4 w5 w6 h1 Ar E (fitC_of Ar fun i hi v hv => f v (by rw [← e]; exact List.mem_of_getElem? (by rw [Array.getElem?_toList]; exact hv))) (g := mkF D.m pc Ls (.ref a :: st)) rfl (hsz.trans ok.2.2.1.symm) rfl (Jvm.hb ok.2.1 hd) hf (W := W) (cap := cap) (by show 2 * 0 + _ ≤ _; rw [hW]; omega) hl (by rw [← Array.length_toList, e]; exact hcap) hc hs
      exact ⟨T', h', X', e', ex, E'.lt, ⟨⟨_, A', e, q, f⟩, E'⟩, s'⟩)
    (fun h' σ' K hlt m1 m2 P => r h.size h' σ' rfl K hlt m1 m2 P.1 P.2)
theorem aaload (pc : Nat) {ty : FieldType} {vs : List Value} {j : Int32} (i : Nat) {v : Value} (hd : decode B.bs pc = .ok (.aaload, 1)) (A : Ary Z h a ty vs) (hty : ty.isReference = true) (hj : j.toInt = (i : Int)) (hv : vs[i]? = some v) (r : Go l Z a0 EL n0 kn B D Q h σ ce sl (pc + 1) Ls (v :: st)) : Go l Z a0 EL n0 kn B D Q h σ ce sl pc Ls (.int j :: .ref a :: st) :=
  plainX (fun T vm0 locs X h1 h4 h5 ok t q => by
    obtain ⟨c, A, e, -⟩ := A
    have hi : i < vs.length := (List.getElem?_eq_some_iff.mp hv).1
    exact X.aaload ok.1 (by rw [h1]; exact A.1) (State.isArrayOf_alike (T := D.s.setVm vm0) h4.alike A.2.1) hty A.2.2 (Ary.inb e hj hi) (by rw [(ix_of hj).2, ← Array.getElem?_toList, e]; exact hv) (g := mkF D.m pc Ls (.int j :: .ref a :: st)) rfl rfl (Jvm.hb ok.2.1 hd) t q) r
theorem instNull (pc : Nat) {ix : Nat} (hd : decode B.bs pc = .ok (.instanceof ix, 3)) (r : Go l Z a0 EL n0 kn B D Q h σ ce sl (pc + 3) Ls (.int 0 :: st)) : Go l Z a0 EL n0 kn B D Q h σ ce sl pc Ls (.null :: st) :=
  plainX (fun T vm0 locs X h1 h4 h5 ok t q => X.instanceofNull ok.1 (g := mkF D.m pc Ls (.null :: st)) rfl rfl (Jvm.hb ok.2.1 hd) t q) r
end Clone
end Jvm.Road
namespace Jvm.Road
open Jvm Jvm.ClassFile Sem Op Lib Jvm.Free Jvm.Stand Jvm.LawKit Jvm.RoadKit Bundle
section Ends
variable {l : Launch} {Z : State} {a0 : Array Value} {EL : List (String × Nat)} {n0 : Nat} {kn : Bool} {B : Bdy} {D : Dyn} {Q : Post} {h : Heap} {σ : Addr → Prop} {ce sl : Nat} {Ls : Array Slot} {st : List Value} {a : Addr}
theorem own_at {vm0 : Vm} {T : State} {locs : List Loc} (X : Stand D.p l D.e B.rm (D.s.setVm vm0) D.m D.args D.bl D.meth D.c T locs ce sl) (hZ : Z.Warmed39 vm0) (ew : EW Z a0 EL) (hC : CHv Z EL vm0 h) {x : Addr} (hx : Own Z EL n0 vm0 h x) : Own Z EL n0 T.vm h x :=
  ⟨(CHv.at X hZ ew hC).safe hx.2.2 hx.1, hx.2.1, hx.2.2⟩
/-- the end of a walk -/
theorem ended {pc : Nat} {v : Option Value} (hv : B.rt = none → v = none) (hc : ce ≤ B.rm.cells) (hs : sl ≤ B.rm.slots) (hq : ∀ σ', (∀ x, σ x → σ' x) → Q v h σ')
    (k : ∀ T vm0 locs fs, Stand D.p l D.e B.rm (D.s.setVm vm0) D.m D.args D.bl D.meth D.c T locs ce sl → Ok B D → (∀ (f : JFrame) (acts : List Action), f.method = D.m → f.locked = none → f.entered = [] → (doReturn D.e (T.setTop f) acts v).1 = T.setFrames fs) → Steps D.p.tables D.e D.bl (T.setTop (mkF D.m pc Ls st)) (T.setFrames fs)) :
    Go l Z a0 EL n0 kn B D Q h σ ce sl pc Ls st := by
  intro ok ew T vm0 I
  obtain ⟨k0, locs, X, h1, h2, h3, h4, h5, h6, h7, h8, h9, h10⟩ := I
  obtain ⟨fs, hr, hrun, hended, hE⟩ := X.leaveW h2 (by rw [h1]; exact h3) (v := v) (fun q => hv (ok.2.2.2.1.symm.trans q)) ok.2.2.2.2.1
  have hh : (T.setFrames fs).heap = h := h1
  refine ⟨T.setFrames fs, .returned v, k T vm0 locs fs X ok hr, hrun, hended, v, locs, rfl, ?_, h7, ?_, ?_, ⟨hE.1, hE.2.1, hE.2.2.1, hE.2.2.2.mono hc hs⟩⟩
  · rw [hh]; exact hq _ fun x hx => own_at X h4 ew h6.1 (h9 x hx)
  · rw [hh]; exact h6.trans (show CHr Z EL vm0 h T.vm h from CHv.at X h4 ew h6.1)
  · rw [hh]; exact h8
theorem ret (pc : Nat) (hd : decode B.bs pc = .ok (.return_, 1)) (hrt : B.rt = none) (hc : ce ≤ B.rm.cells) (hs : sl ≤ B.rm.slots) (hq : ∀ σ', (∀ x, σ x → σ' x) → Q none h σ') : Go l Z a0 EL n0 kn B D Q h σ ce sl pc Ls [] :=
  ended (fun _ => rfl) hc hs hq (fun T vm0 locs fs X ok hr => X.returnOut ok.1 (ok.2.2.2.1.trans hrt) (Jvm.hb ok.2.1 hd) hr)
theorem iret (pc : Nat) {x : Int32} {t : FieldType} (w : Int32) (hd : decode B.bs pc = .ok (.ireturn, 1)) (hrt : B.rt = some t) (ht : t = .boolean ∨ t = .byte ∨ t = .char ∨ t = .short) (hw : nar t x = w) (hc : ce ≤ B.rm.cells) (hs : sl ≤ B.rm.slots) (hq : ∀ σ', (∀ x, σ x → σ' x) → Q (some (.int w)) h σ') : Go l Z a0 EL n0 kn B D Q h σ ce sl pc Ls (.int x :: st) :=
  ended (fun q => by rw [hrt] at q; cases q) hc hs hq (fun T vm0 locs fs X ok hr => retN X ok.1 (t := t) (ok.2.2.2.1.trans hrt) ht (Jvm.hb ok.2.1 hd) (by rw [hw]; exact hr))
theorem iretI (pc : Nat) {x : Int32} (hd : decode B.bs pc = .ok (.ireturn, 1)) (hrt : B.rt = some .int) (hc : ce ≤ B.rm.cells) (hs : sl ≤ B.rm.slots) (hq : ∀ σ', (∀ x, σ x → σ' x) → Q (some (.int x)) h σ') : Go l Z a0 EL n0 kn B D Q h σ ce sl pc Ls (.int x :: st) :=
  ended (fun q => by rw [hrt] at q; cases q) hc hs hq (fun T vm0 locs fs X ok hr => retOut X ok.1 (t := .int) (ok.2.2.2.1.trans hrt) rfl (Or.inl ⟨rfl, Or.inl rfl, x, rfl⟩) (Jvm.hb ok.2.1 hd) hr)
theorem aret (pc : Nat) {v : Value} {t : FieldType} (hd : decode B.bs pc = .ok (.areturn, 1)) (hrt : B.rt = some t) (ht : t.isReference = true) (hv : v.isRef = true) (hc : ce ≤ B.rm.cells) (hs : sl ≤ B.rm.slots) (hq : ∀ σ', (∀ x, σ x → σ' x) → Q (some v) h σ') : Go l Z a0 EL n0 kn B D Q h σ ce sl pc Ls (v :: st) :=
  ended (fun q => by rw [hrt] at q; cases q) hc hs hq (fun T vm0 locs fs X ok hr => retOut X ok.1 (t := t) (ok.2.2.2.1.trans hrt) (by rcases ref_cases hv with rfl | ⟨_, rfl⟩ <;> cases t <;> first | rfl | (cases ht; done)) (Or.inr (Or.inr (Or.inr (Or.inr ⟨rfl, ht, hv⟩)))) (Jvm.hb ok.2.1 hd) hr)
/-- ldc of a String constant that is read -/
theorem ldcS (pc : Nat) {ix : Nat} (text : String) (cs : List Int32) (n : Nat) (hd : decode B.bs pc = .ok (.ldc ix, 2)) (w : (Jvm.Cond.stringLink B.y.cls ix text).before a0 Z = true) (wS : ∀ a ∈ Bundle.stringAtoms, a.before a0 Z = true) (hmem : (B.y.cls, ix) ∈ EL)
    (ht : ∀ c ∈ text.toList, c.toNat < 256) (hvs : text.toList.map (fun c => Value.int (Jvm.Lit.byteI c.toNat.toUInt16)) = cs.map byt) (hcs : ∀ c ∈ cs, 0 ≤ c.toInt ∧ c.toInt < 256) (hn : 4 * text.toList.length ≤ n) (hbig : n ≤ 536870912) {ce' sl' : Nat} (hce : ce + 2 = ce') (hsl : sl + (n + 4) = sl') (hc : ce' ≤ B.rm.cells) (hs : sl' ≤ B.rm.slots)
    (r : ∀ a b h' σ', Keep h h' [] → (∀ x, σ x → σ' x) → Str Z h' a b cs → (∀ x, σ' x → x ≠ a ∧ x ≠ b) → Go l Z a0 EL n0 kn B D Q h' σ' ce' sl' (pc + 2) Ls (.ref a :: st)) : Go l Z a0 EL n0 kn B D Q h σ ce sl pc Ls st := by
  subst hce hsl
  intro ok ew T vm0 I
  obtain ⟨k0, locs, X, h1, h2, h3, h4, h5, h6, h7, h8, h9, h10⟩ := I
  have hlen : (cs.map byt).length = text.toList.length := by rw [← hvs, List.length_map]
  have hsm : text.toList.length < 2147483648 := by omega
  have hz : (text.toList.length).toInt32.toInt = (text.toList.length : Int) := len_toInt hsm
  obtain ⟨q1, q2⟩ := ix_of hz
  obtain ⟨a, T', h', k1, b, k, X', e', E, hS', hk', hZ', ho', E1, E2, E3, E4, l1, l2, hCr, hL, hne, s'⟩ := ldcCH (s := D.s) X ok.1 h4 h5 w wS h1 h2 h3 ew hmem h6.1 (vs := cs.map byt) (z := (text.toList.length).toInt32) ⟨ht, hvs⟩ q1 (by rw [q2, hlen]) (g := mkF D.m pc Ls st) rfl (Jvm.hb ok.2.1 hd) hn hbig hc hs
  have hal : vm0.Alike T'.vm := by
    have z1 := h4.alike
    have z2 : Z.vm.Alike T'.vm := State.Warmed39.alike hZ'
    exact z1.symm.trans z2
  obtain ⟨s2, o, q, rest⟩ := r a b h' (Own Z EL n0 T'.vm h') (keep_ext E) (fun x hx => ⟨hCr.safe (h9 x hx).2.2 (h9 x hx).1, (h9 x hx).2.1, Nat.lt_of_lt_of_le (h9 x hx).2.2 E.1⟩) ⟨E1, E2, E3, Ary.of_arv E4 (by rw [q2, hlen]), hcs⟩ (fun x hx => hne x hx.1) ok ew T' T'.vm
    ⟨k1, locs, X', e', hS', hk', hZ', ho', h6.trans hCr, h7, h8.ext E, fun x hx => hx, fun z => ⟨(h10 z).1.alikeC hal, (h10 z).2.alikeC hal⟩⟩
  exact ⟨s2, o, s' _ q, rest⟩
end Ends
section Calls
variable {l : Launch} {Z : State} {a0 : Array Value} {EL : List (String × Nat)} {n0 : Nat} {kn : Bool} {B B' : Bdy} {D : Dyn} {Q Q' : Post} {h : Heap} {σ : Addr → Prop} {ce sl : Nat} {Ls : Array Slot} {st : List Value} {a : Addr}
theorem Con.back {R : Room} {p : Program} {e : Env} {below : List Frame} {s : State} {args : Array Value} {vm0 : Vm} {len W : Nat} {as : Array Value} (hM : Con l Z EL n0 kn B' [] σ as h Q') (hZ : Z.Warmed39 vm0) (wc : (Jvm.Cond.code B'.y B'.bs B'.ml B'.rt).before a0 Z = true) (wz : (Jvm.Cond.initialized B'.y.cls).before a0 Z = true)
    (hf : B'.rm.frames + 1 ≤ R.frames) (hl : W + (B'.ml + 11) + B'.rm.locals ≤ R.locals) (hEL : EW Z a0 EL) (H : CHv Z EL vm0 h) (hO : Old Z n0 h) (hσ : ∀ x, σ x → Own Z EL n0 vm0 h x) (hK : kn = true → vm0.MethodsKnown ∧ vm0.FramesKnown below) :
    BackS l R p e below (s.setVm vm0) args B'.y len W (fun A a => a = as ∧ A.U.heap = h ∧ A.cells + B'.rm.cells ≤ R.cells ∧ A.slots + B'.rm.slots ≤ R.slots)
      (fun A _ v Bp => ∃ L, (Q' v Bp.U.heap (Own Z EL n0 Bp.U.vm Bp.U.heap) ∧ Fr n0 L ∧ Old Z n0 Bp.U.heap) ∧ Bp.locs = A.locs ++ L ∧ Bp.cells = A.cells + B'.rm.cells ∧ Bp.slots = A.slots + B'.rm.slots ∧ CHr Z EL vm0 h Bp.U.vm Bp.U.heap) :=
  BackS.of_freeWG (bytes := B'.bs) (maxL := B'.ml) (ret := B'.rt) (E := fun _ first o t L k n => k = B'.rm.cells ∧ n = B'.rm.slots ∧ (∃ v, o = .returned v ∧ Q' v t.heap (Own Z EL n0 t.vm t.heap) ∧ Fr n0 L ∧ Old Z n0 t.heap) ∧ CHr Z EL first.vm first.heap t.vm t.heap) hM hf hl
    (fun m meth c A a Y hp => have hU : Z.Warmed39 A.U.vm := wtrans (s := s.setVm vm0) hZ Y.warmed
      ⟨by show (Cond.and _ .tt).before a A.U = true; rw [Cond.before_and, mv hU wc]; rfl, mv hU wc, mv hU wz, hp.2.2.1, hp.2.2.2⟩)
    (fun m meth c A a g mk Y hp => ⟨hp.1, wtrans (s := s.setVm vm0) hZ Y.warmed, hp.2.1, (CHv.at Y hZ hEL H).1, hO, fun x hx => ⟨(CHv.at Y hZ hEL H).safe (hσ x hx).2.2 (hσ x hx).1, (hσ x hx).2⟩⟩)
    (fun m meth c A a g mk Y _ hg hkn => known_frames Y hg (hK hkn).1 (hK hkn).2)
    (fun _ _ _ _ ⟨v, L, h1, h2, h3, h4, h5, h6⟩ => ⟨L, _, _, h6, rfl, rfl, ⟨v, h1, h2, h3, h5⟩, h4⟩)
    (fun m meth c A a g mk v t L k n Y hp _ _ ⟨e1, e2, ⟨v', e3, e4⟩, e5⟩ => by
      cases e3; subst e1 e2
      refine ⟨L, e4, rfl, rfl, rfl, (CHv.at Y hZ hEL H).trans ?_⟩
      rw [← hp.2.1]; exact e5)
/-- behind a call -/
theorem called {pc len : Nat} {rest : List Value} {as : Array Value} (W : Nat) (hM : Con l Z EL n0 kn B' [] σ as h Q') (wc : (Jvm.Cond.code B'.y B'.bs B'.ml B'.rt).before a0 Z = true) (wz : (Jvm.Cond.initialized B'.y.cls).before a0 Z = true)
    (hf : B'.rm.frames + 1 ≤ B.rm.frames) (hl : W + (B'.ml + 11) + B'.rm.locals ≤ B.rm.locals) (hc : ce + B'.rm.cells ≤ B.rm.cells) (hs : sl + B'.rm.slots ≤ B.rm.slots)
    (k : ∀ T vm0 locs, Stand D.p l D.e B.rm (D.s.setVm vm0) D.m D.args D.bl D.meth D.c T locs ce sl → T.heap = h → Z.Warmed39 vm0 → vm0.findClass B.y.cls = some D.m.cls → Ok B D →
      ∀ {Pre : Pt → Array Value → Prop} {Pst : Pt → Array Value → Option Value → Pt → Prop}, BackS l B.rm D.p D.e D.bl (D.s.setVm vm0) D.args B'.y len W Pre Pst → (∀ vm₁, (D.s.setVm vm0).WarmedH vm₁ → Pre ⟨T.setVm vm₁, locs, ce, sl⟩ as) →
      ∃ (v : Option Value) (vm₁ : Vm) (Bp : Pt), (D.s.setVm vm0).WarmedH vm₁ ∧ Stand D.p l D.e B.rm ((D.s.setVm vm0).setVm Bp.U.vm) D.m D.args D.bl D.meth D.c Bp.U Bp.locs Bp.cells Bp.slots ∧ (D.s.setVm vm0).Since Bp.U.vm Bp.U.heap.size ∧ T.heap.size ≤ Bp.U.heap.size ∧ Pst ⟨T.setVm vm₁, locs, ce, sl⟩ as v Bp ∧
        Steps D.p.tables D.e D.bl (T.setTop (mkF D.m pc Ls st)) (Bp.U.setTop (mkF D.m (pc + len) Ls (v.toList ++ rest))))
    (r : ∀ v h' σ', (∀ x, σ x → σ' x) → Q' v h' σ' → Go l Z a0 EL n0 kn B D Q h' σ' (ce + B'.rm.cells) (sl + B'.rm.slots) (pc + len) Ls (push v rest)) : Go l Z a0 EL n0 kn B D Q h σ ce sl pc Ls st := by
  intro ok ew T vm0 I
  obtain ⟨k0, locs, X, h1, h2, h3, h4, h5, h6, h7, h8, h9, h10⟩ := I
  obtain ⟨v, vm₁, ⟨U, Lc, kc, ks⟩, -, X', hS', hgr, ⟨L, ⟨hQ, hFr, hOld⟩, e1, e2, e3, hCr⟩, stp⟩ := k T vm0 locs X h1 h4 h5 ok (Con.back (s := D.s) hM h4 wc wz hf hl ew h6.1 h8 h9 h10) (fun vm₁ _ => ⟨rfl, h1, hc, hs⟩)
  dsimp only [Pt.U, Pt.locs, Pt.cells, Pt.slots] at X' hS' hgr hQ hOld e1 e2 e3 hCr stp
  subst e1 e2 e3
  obtain ⟨Y, hS2, hZ2, ho2⟩ := rebS h2 (by rw [← h1] at h3; exact h3) X' hS' hgr h4 h5
  have hal : vm0.Alike U.vm := hS'.1.alike
  rw [push_eq] at stp
  obtain ⟨s2, o, q, rest'⟩ := r v U.heap (Own Z EL n0 U.vm U.heap) (fun x hx => ⟨hCr.safe (h9 x hx).2.2 (h9 x hx).1, (h9 x hx).2.1, Nat.lt_of_lt_of_le (h9 x hx).2.2 (by rw [← h1]; exact hgr)⟩) hQ ok ew U U.vm
    ⟨U.heap.size, _, Y, rfl, hS2, Nat.le_refl _, hZ2, ho2, h6.trans hCr, h7.app hFr, hOld, fun x hx => hx, fun z => ⟨(h10 z).1.alikeC hal, (h10 z).2.alikeC hal⟩⟩
  exact ⟨s2, o, stp.trans q, rest'⟩
abbrev notMH (y : MethodName) : Prop := y.cls ≠ "java/lang/invoke/MethodHandle" ∧ y.cls ≠ "java/lang/invoke/VarHandle"
theorem callS (pc : Nat) {ix : Nat} {argsL rest : List Value} (W : Nat) (hd : decode B.bs pc = .ok (.invokestatic ix, 3)) (w1 : (Jvm.Cond.methodLink B.y.cls ix B'.y).before a0 Z = true) (w2 : (Jvm.Cond.static B'.y).before a0 Z = true) (w3 : (Jvm.Cond.initialized B'.y.cls).before a0 Z = true) (w4 : (Jvm.Cond.code B'.y B'.bs B'.ml B'.rt).before a0 Z = true) (hy : notMH B'.y)
    (hM : Con l Z EL n0 kn B' [] σ argsL.toArray h Q') (hlen : ∀ sig, parseMethodDescriptor B'.y.desc = some sig → argsL.length = sig.parameters.length) (hst : st = argsL.reverse ++ rest) (hW : (rest.map fun v => v.category).sum = W) (hsz : Ls.size = B.ml)
    (hf : B'.rm.frames + 1 ≤ B.rm.frames) (hl : W + (B'.ml + 11) + B'.rm.locals ≤ B.rm.locals) {ce' sl' : Nat} (hce : ce + B'.rm.cells = ce') (hsl : sl + B'.rm.slots = sl') (hc : ce' ≤ B.rm.cells) (hs : sl' ≤ B.rm.slots)
    (r : ∀ v h' σ', (∀ x, σ x → σ' x) → Q' v h' σ' → Go l Z a0 EL n0 kn B D Q h' σ' ce' sl' (pc + 3) Ls (push v rest)) : Go l Z a0 EL n0 kn B D Q h σ ce sl pc Ls st := by
  subst hce hsl
  exact called W hM w4 w3 hf hl hc hs (fun T vm0 locs X h1 h4 h5 ok {Pre Pst} hB hpre =>
    callSS X ok.1 (s := D.s.setVm vm0) h5 (mv (s := D.s.setVm vm0) h4 w1) (mv (s := D.s.setVm vm0) h4 w2) (mv (s := D.s.setVm vm0) h4 w3) (mv (s := D.s.setVm vm0) h4 w4) hy hB (g := mkF D.m pc Ls st) rfl (hsz.trans ok.2.2.1.symm) (argsL := argsL) (rest := rest) hlen hst (by show 2 * 0 + _ ≤ _; rw [hW]; omega) (Jvm.hb ok.2.1 hd) hpre) r
theorem callI (pc : Nat) {ix : Nat} {argsL rest : List Value} (W : Nat) (hd : decode B.bs pc = .ok (.invokespecial ix, 3)) (w1 : (Jvm.Cond.methodLink B.y.cls ix B'.y).before a0 Z = true) (w2 : (Jvm.Cond.instanceMethod B'.y).before a0 Z = true) (w3 : (Jvm.Cond.initialized B'.y.cls).before a0 Z = true) (w4 : (Jvm.Cond.code B'.y B'.bs B'.ml B'.rt).before a0 Z = true) (hi : B'.y.name = "<init>") (hrt : B'.rt = none) (hy : notMH B'.y)
    (hM : Con l Z EL n0 kn B' [] σ (.ref a :: argsL).toArray h Q') (hlen : ∀ sig, parseMethodDescriptor B'.y.desc = some sig → argsL.length = sig.parameters.length) (hst : st = argsL.reverse ++ .ref a :: rest) (hW : (rest.map fun v => v.category).sum = W) (hsz : Ls.size = B.ml)
    (hf : B'.rm.frames + 1 ≤ B.rm.frames) (hl : W + (B'.ml + 11) + B'.rm.locals ≤ B.rm.locals) {ce' sl' : Nat} (hce : ce + B'.rm.cells = ce') (hsl : sl + B'.rm.slots = sl') (hc : ce' ≤ B.rm.cells) (hs : sl' ≤ B.rm.slots)
    (r : ∀ v h' σ', (∀ x, σ x → σ' x) → Q' v h' σ' → Go l Z a0 EL n0 kn B D Q h' σ' ce' sl' (pc + 3) Ls (push v rest)) : Go l Z a0 EL n0 kn B D Q h σ ce sl pc Ls st := by
  subst hce hsl
  exact called W hM w4 w3 hf hl hc hs (fun T vm0 locs X h1 h4 h5 ok {Pre Pst} hB hpre =>
    X.specialBackS ok.1 hi (s := D.s.setVm vm0) h5 (mv (s := D.s.setVm vm0) h4 w1) (mv (s := D.s.setVm vm0) h4 w2) (bytes := B'.bs) (maxL := B'.ml) (mv (s := D.s.setVm vm0) h4 (hrt ▸ w4)) hy hB (g := mkF D.m pc Ls st) rfl (hsz.trans ok.2.2.1.symm) (Steps.refl _) (argsL := argsL) (rest := rest) hlen hst (by show 2 * 0 + _ ≤ _; rw [hW]; omega) (Jvm.hb ok.2.1 hd) hpre) r
theorem callV (pc : Nat) {ix : Nat} {y : MethodName} {argsL rest : List Value} (C : String) (W : Nat) (hd : decode B.bs pc = .ok (.invokevirtual ix, 3)) (w1 : (Jvm.Cond.methodLink B.y.cls ix y).before a0 Z = true) (w2 : (Jvm.Cond.declares y).before a0 Z = true) (nf : ∀ vm0, Z.Warmed39 vm0 → NotFace (D.s.setVm vm0) y) (w5 : (Jvm.Cond.selects C y B'.y).before a0 Z = true) (w6 : (Jvm.Cond.instanceMethod B'.y).before a0 Z = true) (w3 : (Jvm.Cond.initialized B'.y.cls).before a0 Z = true) (w4 : (Jvm.Cond.code B'.y B'.bs B'.ml B'.rt).before a0 Z = true) (hy : notMH y)
    (E : Exa Z h a C) (hM : Con l Z EL n0 kn B' [] σ (.ref a :: argsL).toArray h Q') (hlen : ∀ sig, parseMethodDescriptor y.desc = some sig → argsL.length = sig.parameters.length) (hst : st = argsL.reverse ++ .ref a :: rest) (hW : (rest.map fun v => v.category).sum = W) (hsz : Ls.size = B.ml)
    (hf : B'.rm.frames + 1 ≤ B.rm.frames) (hl : W + (B'.ml + 11) + B'.rm.locals ≤ B.rm.locals) {ce' sl' : Nat} (hce : ce + B'.rm.cells = ce') (hsl : sl + B'.rm.slots = sl') (hc : ce' ≤ B.rm.cells) (hs : sl' ≤ B.rm.slots)
    (r : ∀ v h' σ', (∀ x, σ x → σ' x) → Q' v h' σ' → Go l Z a0 EL n0 kn B D Q h' σ' ce' sl' (pc + 3) Ls (push v rest)) : Go l Z a0 EL n0 kn B D Q h σ ce sl pc Ls st := by
  subst hce hsl
  exact called W hM w4 w3 hf hl hc hs (fun T vm0 locs X h1 h4 h5 ok {Pre Pst} hB hpre => by
    obtain ⟨cq, kq, qa, qb, qc⟩ := isOf (s := D.s.setVm vm0) h4 h1 E
    exact X.virtualBackS ok.1 (s := D.s.setVm vm0) (C := C) h5 (mv (s := D.s.setVm vm0) h4 w1) (mv (s := D.s.setVm vm0) h4 w2) (nf vm0 h4) (mv (s := D.s.setVm vm0) h4 w5) (mv (s := D.s.setVm vm0) h4 w6) hy hB qa qc (g := mkF D.m pc Ls st) rfl (hsz.trans ok.2.2.1.symm) (Steps.refl _) (argsL := argsL) (rest := rest) hlen hst (by show 2 * 0 + _ ≤ _; rw [hW]; omega) (Jvm.hb ok.2.1 hd) hpre) r
/-- Object.<init> -/
theorem initObj (pc : Nat) {ix : Nat} (hd : decode B.bs pc = .ok (.invokespecial ix, 3)) (w1 : (Jvm.Cond.methodLink B.y.cls ix Lib.objectInit).before a0 Z = true) (w2 : (Jvm.Cond.instanceMethod Lib.objectInit).before a0 Z = true) (w3 : (Jvm.Cond.code Lib.objectInit ⟨#[0xb1]⟩ 1 none).before a0 Z = true) (W : Nat) (hW : (st.map fun v => v.category).sum = W) (hsz : Ls.size = B.ml) (hf : 1 ≤ B.rm.frames) (hl : W + 12 ≤ B.rm.locals)
    (r : Go l Z a0 EL n0 kn B D Q h σ ce sl (pc + 3) Ls st) : Go l Z a0 EL n0 kn B D Q h σ ce sl pc Ls (.ref a :: st) := by
  intro ok ew T vm0 I
  obtain ⟨k0, locs, X, h1, h2, h3, h4, h5, h6, h7, h8, h9, h10⟩ := I
  obtain ⟨T', X', e', s'⟩ := initO X ok.1 (s := D.s.setVm vm0) h4 h5 w1 w2 w3 h1 (g := mkF D.m pc Ls (.ref a :: st)) rfl (hsz.trans ok.2.2.1.symm) rfl (Jvm.hb ok.2.1 hd) hf (W := W) (by show 2 * 0 + _ ≤ _; rw [hW]; omega) hl
  obtain ⟨s2, o, q, rest⟩ := r ok ew T' vm0 ⟨k0, locs, X', e', h2, h3, h4, h5, h6, h7, h8, h9, h10⟩
  exact ⟨s2, o, s' _ q, rest⟩
end Calls
end Jvm.Road
namespace Jvm.Road
open Jvm Jvm.ClassFile Sem Op Lib Jvm.Free Jvm.Stand Jvm.LawKit Jvm.RoadKit Bundle
theorem n32 {i : Nat} (h : i < 2147483648) : i.toInt32.toInt = (i : Int) := len_toInt h
theorem succ32 (i : Nat) : i.toInt32 + 1 = (i + 1).toInt32 := (Int32.ofNat_add i 1).symm
theorem add32n (i j : Nat) : i.toInt32 + j.toInt32 = (i + j).toInt32 := (Int32.ofNat_add i j).symm
theorem lt32 {i j : Nat} (hi : i < 2147483648) (hj : j < 2147483648) : i.toInt32 < j.toInt32 ↔ i < j := by
  rw [Int32.lt_iff_toInt_lt, n32 hi, n32 hj]; omega
theorem eq32 {i j : Nat} (hi : i < 2147483648) (hj : j < 2147483648) : i.toInt32 = j.toInt32 ↔ i = j := by
  rw [← Int32.toInt_inj, n32 hi, n32 hj]; omega
/-- a slot that an int may be stored in -/
def W1 (w : Slot) : Prop := w = .unset ∨ ∃ v, w = .val (.int v)
theorem nar_byte (x : Int32) : nar .byte (Int8.toInt32 (Int32.toInt8 x)) = Int8.toInt32 (Int32.toInt8 x) := by simp [nar]
theorem nar_chr (x : Int32) : nar .char (chr x) = chr x := by simp only [nar, chr, UInt32.toUInt32_toInt32, UInt16.toUInt16_toUInt32]
theorem set_mid {α β : Type} (f : α → β) (cs : List α) (z : β) (k r : Nat) (hk : k < cs.length) : ((cs.take k).map f ++ List.replicate (r + 1) z).set k (f cs[k]) = (cs.take (k + 1)).map f ++ List.replicate r z := by
  have hl : ((cs.take k).map f).length = k := by simp; omega
  rw [List.set_append, if_neg (by omega), hl, Nat.sub_self, List.replicate_succ, List.set_cons_zero, List.take_succ_eq_append_getElem hk, List.map_append]
  simp
end Jvm.Road
namespace Jvm.Road
open Jvm Jvm.ClassFile Sem Op Lib Jvm.Free Jvm.Stand Jvm.LawKit Jvm.RoadKit Bundle
theorem narRef {t : FieldType} {v : Value} (ht : t.isReference = true) (hv : v.isRef = true) : narrow t v = v := by
  rcases ref_cases hv with rfl | ⟨_, rfl⟩ <;> cases t <;> first | rfl | (cases ht; done)
theorem fitRef {t : FieldType} {v : Value} (ht : t.isReference = true) (hv : v.isRef = true) : fits t v = true := by
  rcases ref_cases hv with rfl | ⟨_, rfl⟩ <;> cases t <;> first | rfl | (cases ht; done)
theorem and255 (x : Int32) : 0 ≤ (chr (x &&& 255)).toInt ∧ (chr (x &&& 255)).toInt < 256 := by
  rw [show chr (x &&& 255) = x &&& 255 from i2c_mask x]
  have h1 : (x &&& 255).toInt = ((x.toBitVec &&& 255#32).toInt) := rfl
  have h2 : (x.toBitVec &&& 255#32).toNat ≤ 255 := by rw [BitVec.toNat_and]; exact Nat.and_le_right
  have h3 : (x.toBitVec &&& 255#32).toInt = ((x.toBitVec &&& 255#32).toNat : Int) := BitVec.toInt_eq_toNat_of_lt (by omega)
  rw [h1, h3]; omega
end Jvm.Road
namespace Jvm.Road
open Jvm Jvm.ClassFile Sem Op Lib Jvm.Free Jvm.Stand Jvm.LawKit Jvm.RoadKit Bundle
theorem nameI {l : Launch} {Z : State} {a0 : Array Value} {EL : List (String × Nat)} {n0 : Nat} {kn : Bool} {B : Bdy} {D : Dyn} {Q : Post} {h : Heap} {σ : Addr → Prop} {ce sl : Nat} {Ls : Array Slot} {st : List Value} {pc : Nat} {x : Int32}
    (r : ∀ z, z = x → Go l Z a0 EL n0 kn B D Q h σ ce sl pc Ls (.int z :: st)) : Go l Z a0 EL n0 kn B D Q h σ ce sl pc Ls (.int x :: st) := r x rfl
theorem nameJ {l : Launch} {Z : State} {a0 : Array Value} {EL : List (String × Nat)} {n0 : Nat} {kn : Bool} {B : Bdy} {D : Dyn} {Q : Post} {h : Heap} {σ : Addr → Prop} {ce sl : Nat} {Ls : Array Slot} {st : List Value} {pc : Nat} {x : Int64}
    (r : ∀ z, z = x → Go l Z a0 EL n0 kn B D Q h σ ce sl pc Ls (.long z :: st)) : Go l Z a0 EL n0 kn B D Q h σ ce sl pc Ls (.long x :: st) := r x rfl
theorem and3 (x : Int32) : x &&& 3 = 0 ∨ x &&& 3 = 1 ∨ x &&& 3 = 2 ∨ x &&& 3 = 3 := by
  have h1 : (x &&& 3).toInt = ((x.toBitVec &&& 3#32).toInt) := rfl
  have h2 : (x.toBitVec &&& 3#32).toNat ≤ 3 := by rw [BitVec.toNat_and]; exact Nat.and_le_right
  have h3 : (x.toBitVec &&& 3#32).toInt = ((x.toBitVec &&& 3#32).toNat : Int) := BitVec.toInt_eq_toNat_of_lt (by omega)
  have h4 : (x &&& 3).toInt = 0 ∨ (x &&& 3).toInt = 1 ∨ (x &&& 3).toInt = 2 ∨ (x &&& 3).toInt = 3 := by rw [h1, h3]; omega
  rcases h4 with h | h | h | h
  · exact Or.inl (Int32.toInt_inj.mp h)
  · exact Or.inr (Or.inl (Int32.toInt_inj.mp h))
  · exact Or.inr (Or.inr (Or.inl (Int32.toInt_inj.mp h)))
  · exact Or.inr (Or.inr (Or.inr (Int32.toInt_inj.mp h)))
/-- a slot that a reference may be stored in -/
def W2 (w : Slot) : Prop := w = .unset ∨ ∃ v, w = .val (.ref v)
end Jvm.Road
namespace Jvm.Road
open Jvm Jvm.ClassFile Sem Op Lib Jvm.Free Jvm.Stand Jvm.LawKit Jvm.RoadKit Bundle
theorem shr0 (x : Int32) : x >>> ((0 : Int32) &&& 31) = x := by
  apply Int32.toBitVec_inj.mp; simp [Int32.toBitVec_shiftRight]
theorem lat_nat {c : Int32} (h : 0 ≤ c.toInt ∧ c.toInt < 256) : ∃ i : Fin 256, c = Int32.ofInt (i.1 : Int) := by
  refine ⟨⟨c.toInt.toNat, by omega⟩, ?_⟩
  apply Int32.toInt_inj.mp
  show c.toInt = (Int32.ofInt ((c.toInt.toNat : Nat) : Int)).toInt
  rw [Int.toNat_of_nonneg h.1, Int32.ofInt_toInt]
theorem byte_back {c : Int32} (h : 0 ≤ c.toInt ∧ c.toInt < 256) : nar .char (chr (Int8.toInt32 (Int32.toInt8 c) &&& 255)) = c := by
  obtain ⟨i, rfl⟩ := lat_nat h
  exact (by decide +kernel : ∀ i : Fin 256, nar .char (chr (Int8.toInt32 (Int32.toInt8 (Int32.ofInt (i.1 : Int))) &&& 255)) = Int32.ofInt (i.1 : Int)) i
theorem nar_lat {c : Int32} (h : 0 ≤ c.toInt ∧ c.toInt < 256) : nar .char c = c := by
  obtain ⟨i, rfl⟩ := lat_nat h
  exact (by decide +kernel : ∀ i : Fin 256, nar .char (Int32.ofInt (i.1 : Int)) = Int32.ofInt (i.1 : Int)) i
end Jvm.Road
namespace Jvm.Road
open Jvm Jvm.ClassFile Sem Op Lib Jvm.Free Jvm.Stand Jvm.LawKit Jvm.RoadKit Bundle
/-- an int's 32 bits as a number -/
def u32 (x : Int32) : Nat := x.toBitVec.toNat
theorem u32_lt (x : Int32) : u32 x < 4294967296 := x.toBitVec.isLt
theorem u32_inj {x y : Int32} (h : u32 x = u32 y) : x = y := Int32.toBitVec_inj.mp (BitVec.eq_of_toNat_eq h)
theorem toInt_u32 {x : Int32} (h : u32 x < 2147483648) : x.toInt = (u32 x : Int) := by
  show x.toBitVec.toInt = _
  exact BitVec.toInt_eq_toNat_of_lt (by show 2 * u32 x < 2 ^ 32; omega)
theorem u32_and (x y : Int32) : u32 (x &&& y) = u32 x &&& u32 y := BitVec.toNat_and ..
theorem u32_chr (x : Int32) : u32 (chr x) = u32 x % 65536 := by
  show ((x.toBitVec.setWidth 16).setWidth 32).toNat = _
  rw [BitVec.toNat_setWidth, BitVec.toNat_setWidth]
  show x.toBitVec.toNat % 65536 % 4294967296 = _
  show _ = x.toBitVec.toNat % 65536
  omega
theorem u32_ushr (x y : Int32) : u32 (XT.ushr x y) = u32 x >>> (u32 y % 32) := by
  show ((x.toBitVec >>> ((y &&& 31).toBitVec.umod 32#32)).toNat) = _
  have h : ((y &&& 31).toBitVec.umod 32#32).toNat = u32 y % 32 := by
    show (BitVec.umod (y.toBitVec &&& 31#32) 32#32).toNat = _
    rw [show (BitVec.umod (y.toBitVec &&& 31#32) 32#32) = (y.toBitVec &&& 31#32) % 32#32 from rfl, BitVec.toNat_umod, BitVec.toNat_and]
    show (u32 y &&& 31) % 32 = _
    rw [show (31 : Nat) = 2 ^ 5 - 1 from rfl, Nat.and_two_pow_sub_one_eq_mod]
    omega
  rw [← h]
  exact BitVec.toNat_ushiftRight ..
theorem and_mask (x : Nat) (k : Nat) : x &&& (2 ^ k - 1) = x % 2 ^ k := Nat.and_two_pow_sub_one_eq_mod x k
theorem u32_and255 (x : Int32) : u32 (x &&& 255) = u32 x % 256 := by rw [u32_and]; exact and_mask _ 8
theorem u32_and7 (x : Int32) : u32 (x &&& 7) = u32 x % 8 := by rw [u32_and]; exact and_mask _ 3
theorem u32_and3 (x : Int32) : u32 (x &&& 3) = u32 x % 4 := by rw [u32_and]; exact and_mask _ 2
theorem u32_and1 (x : Int32) : u32 (x &&& 1) = u32 x % 2 := by rw [u32_and]; exact and_mask _ 1
theorem chr_id {x : Int32} (h : u32 x < 65536) : chr x = x := u32_inj (by rw [u32_chr]; omega)
end Jvm.Road
namespace Jvm.Road
open Jvm Jvm.ClassFile Sem Op Lib Jvm.Free Jvm.Stand Jvm.LawKit Jvm.RoadKit Bundle
/-- the byte of a char, as an int -/
def bf (c : Int32) : Int32 := Int8.toInt32 (Int32.toInt8 c)
theorem bf_inj {c d : Int32} (hc : 0 ≤ c.toInt ∧ c.toInt < 256) (hd : 0 ≤ d.toInt ∧ d.toInt < 256) (h : bf c = bf d) : c = d := by
  rw [← byte_back hc, ← byte_back hd]
  show nar .char (chr (bf c &&& 255)) = nar .char (chr (bf d &&& 255))
  rw [h]
theorem bfs_inj : ∀ {cs ds : List Int32}, (∀ c ∈ cs, 0 ≤ c.toInt ∧ c.toInt < 256) → (∀ c ∈ ds, 0 ≤ c.toInt ∧ c.toInt < 256) → cs.map bf = ds.map bf → cs = ds
  | [], [], _, _, _ => rfl
  | [], d :: ds, _, _, h => by simp at h
  | c :: cs, [], _, _, h => by simp at h
  | c :: cs, d :: ds, h1, h2, h => by
    simp only [List.map_cons, List.cons.injEq] at h
    rw [bf_inj (h1 _ (by simp)) (h2 _ (by simp)) h.1, bfs_inj (fun x hx => h1 x (by simp [hx])) (fun x hx => h2 x (by simp [hx])) h.2]
theorem byts (cs : List Int32) : cs.map byt = (cs.map bf).map Value.int := by rw [List.map_map]; rfl
theorem ints_inj : ∀ {xs ys : List Int32}, xs.map Value.int = ys.map Value.int → xs = ys
  | [], [], _ => rfl
  | [], d :: ds, h => by simp at h
  | c :: cs, [], h => by simp at h
  | c :: cs, d :: ds, h => by
    simp only [List.map_cons, List.cons.injEq, Value.int.injEq] at h
    rw [h.1, ints_inj h.2]
theorem Str.uniq {Z : State} {h : Heap} {a b b' : Addr} {cs ds : List Int32} (S : Str Z h a b cs) (S' : Str Z h a b' ds) : cs = ds := by
  have e := Value.ref.inj (Fld.uniq S.2.2.1 S'.2.2.1)
  subst e
  have q := Ary.uniq S.2.2.2.1 S'.2.2.2.1
  rw [byts, byts] at q
  exact bfs_inj S.2.2.2.2 S'.2.2.2.2 (ints_inj q)
theorem take_ext {xs ys : List Int32} {k : Nat} (hk : k < xs.length) (hk' : k < ys.length) (h : xs.take k = ys.take k) (e : xs[k] = ys[k]) : xs.take (k + 1) = ys.take (k + 1) := by
  rw [List.take_succ_eq_append_getElem hk, List.take_succ_eq_append_getElem hk', h, e]
theorem u32_mask31 (x : Int32) : u32 (x &&& 2147483647) = u32 x % 2147483648 := by rw [u32_and]; exact and_mask _ 31
theorem rem_pos {x y : Int32} {n : Nat} (hx : u32 x < 2147483648) (hy : y.toInt = (n : Int)) (hn : 0 < n) : (x % y).toInt = ((u32 x % n : Nat) : Int) := by
  rw [Int32.toInt_mod, toInt_u32 hx, hy]
  rfl
theorem small_of {x : Int32} {n : Nat} {k : Nat} (h : x.toInt = ((k % n : Nat) : Int)) (hn : 0 < n) : ∃ i : Fin n, x = Int32.ofInt (i.1 : Int) := by
  refine ⟨⟨k % n, Nat.mod_lt _ hn⟩, ?_⟩
  have := congrArg Int32.ofInt h
  rwa [Int32.ofInt_toInt] at this
end Jvm.Road
namespace Jvm.Road
open Jvm Jvm.ClassFile Sem Op Lib Jvm.Free Jvm.Stand Jvm.LawKit Jvm.RoadKit Bundle Jvm.Free.Exc
section Exc
variable {l : Launch} {Z : State} {a0 : Array Value} {EL : List (String × Nat)} {n0 : Nat} {kn : Bool} {B : Bdy} {D : Dyn} {Q : Post} {h : Heap} {σ : Addr → Prop} {ce sl : Nat} {Ls : Array Slot} {st : List Value} {a : Addr}
/-- super(msg) of a Throwable, down a chain of constructors that only pass it on -/
theorem excInit (pc : Nat) {ix n : Nat} {rc : String} {links : List Link} {msg : Value} (W : Nat) (hd : decode B.bs pc = .ok (.invokespecial ix, 3)) (hok : linksOk 1 links = true)
    (w1 : (Jvm.Cond.methodLink B.y.cls ix (ctor 1 (headName links))).before a0 Z = true) (w2 : (Jvm.Cond.instanceMethod (ctor 1 (headName links))).before a0 Z = true) (wT : (chainTab 1 rc links).before a0 Z = true) (wi : (Jvm.Cond.instantiable rc n).before a0 Z = true) (r2 : ∀ d ∈ twoRefs, d.before a0 Z = true)
    (hl : l.stackTraces = true) (hkn : kn = true) (hO : Old Z n0 D.s.heap) (E : Exa Z h a rc) (N : Unt h a) (F1 : Fld Z h a tN "backtrace" obD .null) (F2 : Fld Z h a tN "detailMessage" msgD .null) (hmsg : msg.isRef = true) (hσ : σ a)
    (hW : (st.map fun v => v.category).sum = W) (hsz : Ls.size = B.ml) (hf : 4 + links.length ≤ B.rm.frames) (hlo : W + (56 + 14 * links.length) ≤ B.rm.locals) {ce' sl' : Nat} (hce : ce + 1 = ce') (hsl : sl + 2752 = sl') (hc : ce' ≤ B.rm.cells) (hs : sl' ≤ B.rm.slots)
    (r : ∀ h', Kp Z h h' a → Keep h h' [a] → Exa Z h' a rc → Unt h' a → Fld Z h' a tN "detailMessage" msgD msg → Fld Z h' a tN "cause" thD (.ref a) → Go l Z a0 EL n0 kn B D Q h' σ ce' sl' (pc + 3) Ls st) : Go l Z a0 EL n0 kn B D Q h σ ce sl pc Ls (msg :: .ref a :: st) := by
  subst hce hsl
  intro ok ew T vm0 I
  obtain ⟨k0, locs, X, h1, h2, h3, h4, h5, h6, h7, h8, h9, h10⟩ := I
  obtain ⟨T', h', X', e', K, E', N', M', C', -, s'⟩ := excL1 X ok.1 hl (s := D.s.setVm vm0) h4 h5 hok w1 w2 wT wi r2 (ThS.start.ext hO.2) (ThS.start.ext h8.2) (h10 hkn).1 (h10 hkn).2 h1 E N F1 F2 hmsg (g := mkF D.m pc Ls (msg :: .ref a :: st)) rfl (hsz.trans ok.2.2.1.symm) (rest := st) rfl (Jvm.hb ok.2.1 hd) hf (by show 2 * 0 + _ + _ ≤ _; rw [hW]; omega) hc hs
  have ha := h9 a hσ
  have K2 : Keep h h' [a] := keep_of_kp K
  have hsf : ∀ x ∈ [a], Safe Z EL vm0 h x := fun x hx => by cases List.mem_singleton.mp hx; exact ha.1
  obtain ⟨s2, o, q, rest⟩ := r h' K K2 E' N' M' C' ok ew T' vm0
    ⟨k0, _, X', e', h2, Nat.le_trans h3 K2.1, h4, h5, h6.trans (CHr.keep K2 hsf h6.1), Fr.six h7 ha.2.1, h8.keep K2 (fun x hx => by cases List.mem_singleton.mp hx; exact ha.2.1), fun x hx => ⟨Safe.keep K2 hsf h6.1 (h9 x hx).1, (h9 x hx).2.1, Nat.lt_of_lt_of_le (h9 x hx).2.2 K2.1⟩, h10⟩
  exact ⟨s2, o, s' _ q, rest⟩
end Exc
section Up
variable {l : Launch} {Z : State} {a0 : Array Value} {EL : List (String × Nat)} {n0 : Nat} {kn : Bool} {B B' : Bdy} {D : Dyn} {Q Q' : Post} {h : Heap} {σ : Addr → Prop} {ce sl : Nat} {Ls : Array Slot} {st : List Value} {a : Addr}
/-- invokevirtual whose entry names the method by a subclass of the one that declares it -/
theorem callU (pc : Nat) {ix : Nat} {y : MethodName} {argsL rest : List Value} (C owner : String) (W : Nat) (hd : decode B.bs pc = .ok (.invokevirtual ix, 3)) (w1 : (Jvm.Cond.methodLink B.y.cls ix y).before a0 Z = true) (w2 : (Jvm.Cond.sameMethod y.cls owner y.name y.desc).before a0 Z = true) (w2' : (Jvm.Cond.declares ⟨owner, y.name, y.desc⟩).before a0 Z = true) (hy : owner ≠ "java/lang/invoke/MethodHandle" ∧ owner ≠ "java/lang/invoke/VarHandle") (w5 : (Jvm.Cond.selects C y B'.y).before a0 Z = true) (w6 : (Jvm.Cond.instanceMethod B'.y).before a0 Z = true) (w3 : (Jvm.Cond.initialized B'.y.cls).before a0 Z = true) (w4 : (Jvm.Cond.code B'.y B'.bs B'.ml B'.rt).before a0 Z = true)
    (E : Exa Z h a C) (hM : Con l Z EL n0 kn B' [] σ (.ref a :: argsL).toArray h Q') (hlen : ∀ sig, parseMethodDescriptor y.desc = some sig → argsL.length = sig.parameters.length) (hst : st = argsL.reverse ++ .ref a :: rest) (hW : (rest.map fun v => v.category).sum = W) (hsz : Ls.size = B.ml)
    (hf : B'.rm.frames + 1 ≤ B.rm.frames) (hl : W + (B'.ml + 11) + B'.rm.locals ≤ B.rm.locals) {ce' sl' : Nat} (hce : ce + B'.rm.cells = ce') (hsl : sl + B'.rm.slots = sl') (hc : ce' ≤ B.rm.cells) (hs : sl' ≤ B.rm.slots)
    (r : ∀ v h' σ', (∀ x, σ x → σ' x) → Q' v h' σ' → Go l Z a0 EL n0 kn B D Q h' σ' ce' sl' (pc + 3) Ls (push v rest)) : Go l Z a0 EL n0 kn B D Q h σ ce sl pc Ls st := by
  subst hce hsl
  exact called W hM w4 w3 hf hl hc hs (fun T vm0 locs X h1 h4 h5 ok {Pre Pst} hB hpre => by
    obtain ⟨cq, kq, qa, qb, qc⟩ := isOf (s := D.s.setVm vm0) h4 h1 E
    exact X.virtualBackUpS ok.1 (s := D.s.setVm vm0) (C := C) h5 (mv (s := D.s.setVm vm0) h4 w1) (mv (s := D.s.setVm vm0) h4 w2) (mv (s := D.s.setVm vm0) h4 w2') hy (mv (s := D.s.setVm vm0) h4 w5) (mv (s := D.s.setVm vm0) h4 w6) hB qa qc (g := mkF D.m pc Ls st) rfl (hsz.trans ok.2.2.1.symm) (Steps.refl _) (argsL := argsL) (rest := rest) hlen hst (by show 2 * 0 + _ ≤ _; rw [hW]; omega) (Jvm.hb ok.2.1 hd) hpre) r
end Up
end Jvm.Road
namespace Jvm.Road
open Jvm Jvm.ClassFile Sem Op Lib Jvm.Free Jvm.Stand Jvm.LawKit Jvm.RoadKit Bundle
section Start
variable {Z : State} {a : Addr} {args : Array Value} {t b : Term} {ty : FieldType}
theorem eq_int_of {n : Int32} (h : (Cond.eq t (Term.int n)).value args Z none Z [] = some true) : t.eval args Z none [] Z = some (.int n) := by
  obtain ⟨x, y, q1, q2, -, k2⟩ := cmp_v (Or.inl h)
  cases q2
  obtain ⟨z, rfl⟩ := k2
  have := gotT (Cond.eq_ints q1 (Term.int_eval n)) h
  rw [← this]; exact q1
theorem eq_ref_of {q : Addr} (h : (Cond.eq t b).value args Z none Z [] = some true) (hb : b.eval args Z none [] Z = some (.ref q)) : t.eval args Z none [] Z = some (.ref q) := by
  obtain ⟨x, y, q1, q2, -, k2⟩ := cmp_v (Or.inl h)
  cases hb.symm.trans q2
  have := gotT (eq_R q1 hb k2.2 rfl) h
  rw [← this]; exact q1
theorem len_lt {v : Value} (h : (Term.length t).eval args Z none [] Z = some v) (ev : t.eval args Z none [] Z = some (.ref a)) : ∃ c, Z.arrayAt? a = some c ∧ c.slots.size < 2 ^ 31 ∧ v = .int c.slots.size.toInt32 := by
  obtain ⟨x, c, e1, e2, e3⟩ := Term.length_spec h
  cases ev.symm.trans e1
  refine ⟨c, e2, ?_, e3⟩
  by_cases q : c.slots.size < 2 ^ 31
  · exact q
  · simp [Term.eval, ev, e2, q] at h
theorem Ary.start {n : Int32} {vs : List Value} (ev : t.eval args Z none [] Z = some (.ref a)) (hx : (Cond.arrayOf t ty).value args Z none Z [] = some true)
    (hl : (Cond.eq (Term.length t) (Term.int n)).value args Z none Z [] = some true) (hn : n.toInt = vs.length)
    (he : ∀ i, i < vs.length → ∃ j : Int32, j.toInt = (i : Int) ∧ (Term.elem t (Term.int j)).eval args Z none [] Z = vs[i]?) (hf : ∀ v ∈ vs, fits ty v = true) : Ary Z Z.heap a ty vs := by
  obtain ⟨c, A⟩ := Arr.start ev hx
  obtain ⟨c', e1, e2, e3⟩ := len_lt (eq_int_of hl) ev
  have e4 : Z.heap[a]? = some c' := (arrayAt_spec e1).1
  cases A.1.symm.trans e4
  have e5 : c.slots.size = vs.length := by
    have : n.toInt = (c.slots.size : Int) := by
      injection e3 with q; rw [q]; exact len_toInt e2
    omega
  refine ⟨c, A, ?_, by omega, hf⟩
  apply List.ext_getElem?
  intro i
  by_cases hi : i < vs.length
  · obtain ⟨j, j1, j2⟩ := he i hi
    rw [List.getElem?_eq_getElem hi] at j2 ⊢
    have := (elem_in j2 ev (Term.int_eval j) A.1).2
    rw [(ix_of j1).2] at this
    rw [Array.getElem?_toList]; exact this
  · rw [List.getElem?_eq_none (Nat.le_of_not_lt hi), List.getElem?_eq_none (by rw [Array.length_toList, e5]; exact Nat.le_of_not_lt hi)]
end Start
end Jvm.Road
namespace Jvm.Road
open Jvm Jvm.ClassFile Sem Op Lib Jvm.Free Jvm.Stand Jvm.LawKit Jvm.RoadKit Bundle
section Copy
variable {l : Launch} {Z : State} {a0 : Array Value} {EL : List (String × Nat)} {n0 : Nat} {kn : Bool} {B : Bdy} {D : Dyn} {Q : Post} {h : Heap} {σ : Addr → Prop} {ce sl : Nat} {Ls : Array Slot} {st : List Value} {a b : Addr}
theorem arv_of {ty : FieldType} {vs : List Value} (A : Ary Z h a ty vs) : ∃ k, Arv Z h a k ty (Nat.toInt32 vs.length) vs .null ∧ (Nat.toInt32 vs.length).toNatClampNeg = vs.length := by
  obtain ⟨c, A, e, q, f⟩ := A
  have e1 : (Nat.toInt32 vs.length).toInt = vs.length := len_toInt q
  have e2 := ix_of e1
  have e3 : c.slots.size = vs.length := by rw [← Array.length_toList, e]
  refine ⟨_, ⟨c, A, rfl, e3.trans e2.2.symm, e2.1, fun i hi => ?_, fun i hi => ?_⟩, e2.2⟩
  · rw [← Array.getElem?_toList, e, List.getElem?_eq_getElem (by omega), List.getD_eq_getElem?_getD, List.getElem?_eq_getElem (by omega)]; rfl
  · rw [List.getD_eq_getElem?_getD, List.getElem?_eq_getElem (by omega)]; exact f _ (List.getElem_mem _)
theorem stretch_eq (vs : List Value) (i n : Nat) (h : i + n ≤ vs.length) : (List.range n).map (fun k => vs.getD (i + k) .null) = (vs.drop i).take n := by
  apply List.ext_getElem?
  intro k
  by_cases hk : k < n
  · rw [List.getElem?_map, List.getElem?_range hk, List.getElem?_take_of_lt hk, List.getElem?_drop, List.getElem?_eq_getElem (by omega)]
    simp [List.getD_eq_getElem?_getD, List.getElem?_eq_getElem (show i + k < vs.length by omega)]
  · rw [List.getElem?_eq_none (by simp; omega), List.getElem?_eq_none (by simp; omega)]
theorem acopy (pc : Nat) {ix : Nat} {ty : FieldType} {vs vd : List Value} {sp dp nn : Int32} (i j n W : Nat) (hd : decode B.bs pc = .ok (.invokestatic ix, 3))
    (w1 : (Jvm.Cond.methodLink B.y.cls ix Jvm.Stand.acN).before a0 Z = true) (w2 : (Jvm.Cond.native Jvm.Stand.acN).before a0 Z = true) (w3 : (Jvm.Cond.static Jvm.Stand.acN).before a0 Z = true) (w4 : (Jvm.Cond.initialized "java/lang/System").before a0 Z = true)
    (A : Ary Z h a ty vs) (Ab : Ary Z h b ty vd) (hr : refKind ty = false) (h1 : sp.toInt = (i : Int)) (h2 : dp.toInt = (j : Int)) (h3 : nn.toInt = (n : Int)) (h4 : i + n ≤ vs.length) (h5 : j + n ≤ vd.length) (hσ : σ b)
    (hW : (st.map fun v => v.category).sum = W) (hsz : Ls.size = B.ml) (hf : 1 ≤ B.rm.frames) (hl : W + 18 ≤ B.rm.locals)
    (r : ∀ h', Keep h h' [b] → Ary Z h' b ty (vd.take j ++ (vs.drop i).take n ++ vd.drop (j + n)) → Go l Z a0 EL n0 kn B D Q h' σ ce sl (pc + 3) Ls st) :
    Go l Z a0 EL n0 kn B D Q h σ ce sl pc Ls (.int nn :: .int dp :: .ref b :: .int sp :: .ref a :: st) := by
  intro ok ew T vm0 I
  obtain ⟨k0, locs, X, g1, g2, g3, g4, g5, g6, g7, g8, g9, g10⟩ := I
  obtain ⟨k1, A1, z1⟩ := arv_of A
  obtain ⟨k2, A2, z2⟩ := arv_of Ab
  have ha := g9 b hσ
  obtain ⟨s1, s1'⟩ := ix_of h1
  obtain ⟨s2, s2'⟩ := ix_of h2
  obtain ⟨s3, s3'⟩ := ix_of h3
  obtain ⟨T', h', L, X', e', N, K, A3, s'⟩ := cpA X ok.1 (s := D.s.setVm vm0) g4 g5 w1 w2 w3 w4 g1 A1 A2 (Or.inl ⟨rfl, hr⟩) (sp := sp) (dp := dp) (nn := nn) s1 s2 s3 (by rw [s1', s3', z1]; exact h4) (by rw [s2', s3', z2]; exact h5) rfl (by rw [s2', s3']; exact h5) g7 ha.2.1
    (g := mkF D.m pc Ls (.int nn :: .int dp :: .ref b :: .int sp :: .ref a :: st)) rfl (hsz.trans ok.2.2.1.symm) rfl (Jvm.hb ok.2.1 hd) hf (W := W) (by show 2 * 0 + _ ≤ _; rw [hW]; omega) (by show W + 18 ≤ _; exact hl)
  rw [s1', s2', s3', stretch_eq _ _ _ h4] at A3
  have hlen : (vd.take j ++ (vs.drop i).take n ++ vd.drop (j + n)).length = vd.length := by
    simp only [List.length_append, List.length_take, List.length_drop]; omega
  have hs : ∀ x ∈ [b], Safe Z EL vm0 h x := fun x hx => by cases List.mem_singleton.mp hx; exact ha.1
  obtain ⟨s2, o, q, rest⟩ := r h' K (Ary.of_arv A3 (by rw [z2, hlen])) ok ew T' vm0 ⟨k0, _, X', e', g2, Nat.le_trans g3 K.1, g4, g5, g6.trans (CHr.keep K hs g6.1), N, g8.keep K (fun x hx => by cases List.mem_singleton.mp hx; exact ha.2.1),
    fun x hx => ⟨Safe.keep K hs g6.1 (g9 x hx).1, (g9 x hx).2.1, Nat.lt_of_lt_of_le (g9 x hx).2.2 K.1⟩, g10⟩
  exact ⟨s2, o, s' _ q, rest⟩
end Copy
theorem shl0 (x : Int32) : x <<< ((0 : Int32) &&& 31) = x := by
  apply Int32.toBitVec_inj.mp; simp [Int32.toBitVec_shiftLeft]
theorem sub32n {i j : Nat} (h : j ≤ i) : i.toInt32 - j.toInt32 = (i - j).toInt32 := by
  have e : (i - j).toInt32 + j.toInt32 = i.toInt32 := by rw [add32n, Nat.sub_add_cancel h]
  rw [← e, Int32.add_sub_cancel]
theorem gsub {m N : Nat} (hm : m < 2147483648) (hN : N < 2147483648) : (0 : Int32) < m.toInt32 - N.toInt32 ↔ N < m := by
  by_cases h : N ≤ m
  · rw [sub32n h, show (0 : Int32) = (0 : Nat).toInt32 from rfl, lt32 (by omega) (by omega)]; omega
  · have e : m.toInt32 - N.toInt32 = -((N - m).toInt32) := by rw [← sub32n (show m ≤ N by omega), Int32.neg_sub]
    rw [e, Int32.lt_iff_toInt_lt]
    have : (-((N - m).toInt32)).toInt = -((N - m : Nat) : Int) := by
      rw [Int32.toInt_neg, n32 (by omega)]
      rw [Int.bmod_eq_of_le] <;> omega
    rw [this]
    have : (0 : Int32).toInt = 0 := rfl
    omega
abbrev SB : String := "java/lang/StringBuilder"
abbrev AB : String := "java/lang/AbstractStringBuilder"
/-- the StringBuilder at a holds these chars; its bytes at b, of which there are N -/
def Sb (Z : State) (h : Heap) (a b : Addr) (cs : List Int32) (N : Nat) : Prop := Exa Z h a SB ∧ Fld Z h a AB "coder" "B" (.int 0) ∧ Fld Z h a AB "value" "[B" (.ref b) ∧ Fld Z h a AB "count" "I" (.int (Nat.toInt32 cs.length)) ∧ (∃ r : List Value, Ary Z h b .byte (cs.map byt ++ r) ∧ cs.length + r.length = N) ∧ (∀ c ∈ cs, 0 ≤ c.toInt ∧ c.toInt < 256)
section Builder
variable {Z : State} {h h' : Heap} {a b : Addr} {cs : List Int32} {N : Nat} {ws : List Addr}
theorem Sb.keep (F : Sb Z h a b cs N) (K : Keep h h' ws) (q : a ∉ ws) (q' : b ∉ ws) : Sb Z h' a b cs N := by
  obtain ⟨f1, f2, f3, f4, ⟨r, f5, f6⟩, f7⟩ := F
  exact ⟨f1.keep K, f2.keep K q, f3.keep K q, f4.keep K q, ⟨r, f5.keep K q', f6⟩, f7⟩
theorem Sb.lt (F : Sb Z h a b cs N) : a < h.size := F.1.lt
theorem Sb.ltb (F : Sb Z h a b cs N) : b < h.size := by obtain ⟨_, _, _, _, ⟨r, f5, -⟩, _⟩ := F; exact f5.lt
theorem Sb.le (F : Sb Z h a b cs N) : cs.length ≤ N := by obtain ⟨_, _, _, _, ⟨r, -, f6⟩, _⟩ := F; omega
theorem Sb.small (F : Sb Z h a b cs N) : N < 2147483648 := by obtain ⟨_, _, _, _, ⟨r, f5, f6⟩, _⟩ := F; have := f5.small; simp only [List.length_append, List.length_map] at this; omega
theorem put_str (cs ds : List Int32) (r : List Value) (hl : ds.length ≤ r.length) : (cs.map byt ++ r).take cs.length ++ ((ds.map byt).drop 0).take ds.length ++ (cs.map byt ++ r).drop (cs.length + ds.length) = (cs ++ ds).map byt ++ r.drop ds.length := by
  have e1 : (cs.map byt).length = cs.length := List.length_map _
  have e2 : (ds.map byt).length = ds.length := List.length_map _
  rw [List.take_append_of_le_length (by omega), List.take_of_length_le (by omega), List.drop_zero, List.take_of_length_le (by omega), List.map_append, ← e1, ← List.drop_drop, List.drop_left]
theorem put_chr (cs : List Int32) (x : Int32) (r : List Value) (hl : 1 ≤ r.length) : (cs.map byt ++ r).set cs.length (byt x) = (cs ++ [x]).map byt ++ r.drop 1 := by
  have e1 : (cs.map byt).length = cs.length := List.length_map _
  cases r with
  | nil => simp at hl
  | cons v r => rw [List.set_append_right _ _ (by omega), e1, Nat.sub_self]; simp
theorem keep1 (K : Keep h h' [a]) : Keep h h' [a, b] := ⟨K.1, fun x c q r => K.2.1 x c q (fun z => r (by cases List.mem_singleton.mp z; simp)), K.2.2⟩
theorem keep2 {h2 : Heap} (K : Keep h h' [b]) (K' : Keep h' h2 [a]) : Keep h h2 [a, b] :=
  Keep.trans (ws := [a, b]) ⟨K.1, fun x c q r => K.2.1 x c q (fun z => r (by cases List.mem_singleton.mp z; simp)), K.2.2⟩ K' (by simp)
theorem keep2' {h2 : Heap} (K : Keep h h' [a]) (K' : Keep h' h2 [b]) : Keep h h2 [a, b] :=
  Keep.trans (ws := [a, b]) ⟨K.1, fun x c q r => K.2.1 x c q (fun z => r (by cases List.mem_singleton.mp z; simp)), K.2.2⟩ K' (by simp)
end Builder
end Jvm.Road
namespace Jvm.Road
open Jvm Jvm.ClassFile Sem Op Lib Jvm.Free Jvm.Stand Jvm.LawKit Jvm.RoadKit Bundle
/-- a method's class is no interface, by another method of the same class -/
theorem notFace_sib {args : Array Value} {s : State} {C : String} {y z : MethodName} (hsel : (Jvm.Cond.selects C y y).before args s = true) (e : z.cls = y.cls) : NotFace s z := fun r0 h0 => by
  obtain ⟨c2, r2, m2, q1, q2, q3, q4, kP, hkP, hkPi⟩ := Cond.selects_spec hsel
  have e1 := findClass_of_methodNamed h0
  have e2 := findClass_of_methodNamed q3
  rw [e] at e1
  have e3 := Option.some.inj (e1.symm.trans e2)
  exact ⟨kP, by rw [e3]; exact hkP, hkPi⟩
theorem same_of {args : Array Value} {s : State} {y : MethodName} (hi : (Jvm.Cond.instanceMethod y).before args s = true) (nf : NotFace s y) (hy : y.cls ≠ "java/lang/invoke/MethodHandle" ∧ y.cls ≠ "java/lang/invoke/VarHandle") : (Jvm.Cond.sameMethod y.cls y.cls y.name y.desc).before args s = true := by
  obtain ⟨mk, meth, hnamed, -⟩ := Cond.instanceMethod_spec hi
  have h1 := findClass_of_methodNamed hnamed
  have h2 := State.methodFound?_of_named hnamed hy
  obtain ⟨kr, hk, hni⟩ := nf _ hnamed
  simp [Cond.before, Cond.holds, Cond.value, h1, h2, hnamed, hk, hni]
section Calls2
variable {l : Launch} {Z : State} {a0 : Array Value} {EL : List (String × Nat)} {n0 : Nat} {kn : Bool} {B B' : Bdy} {D : Dyn} {Q Q' : Post} {h : Heap} {σ : Addr → Prop} {ce sl : Nat} {Ls : Array Slot} {st : List Value} {a : Addr}
/-- a private method by invokevirtual -/
theorem callP (pc : Nat) {ix : Nat} {argsL rest : List Value} (C : String) (W : Nat) (hd : decode B.bs pc = .ok (.invokevirtual ix, 3)) (w1 : (Jvm.Cond.methodLink B.y.cls ix B'.y).before a0 Z = true) (w2 : (Jvm.Cond.privateMethod B'.y).before a0 Z = true) (w5 : (Jvm.Cond.selects C B'.y B'.y).before a0 Z = true) (w6 : (Jvm.Cond.instanceMethod B'.y).before a0 Z = true) (w3 : (Jvm.Cond.initialized B'.y.cls).before a0 Z = true) (w4 : (Jvm.Cond.code B'.y B'.bs B'.ml B'.rt).before a0 Z = true) (hy : notMH B'.y)
    (E : Exa Z h a C) (hM : Con l Z EL n0 kn B' [] σ (.ref a :: argsL).toArray h Q') (hlen : ∀ sig, parseMethodDescriptor B'.y.desc = some sig → argsL.length = sig.parameters.length) (hst : st = argsL.reverse ++ .ref a :: rest) (hW : (rest.map fun v => v.category).sum = W) (hsz : Ls.size = B.ml)
    (hf : B'.rm.frames + 1 ≤ B.rm.frames) (hl : W + (B'.ml + 11) + B'.rm.locals ≤ B.rm.locals) {ce' sl' : Nat} (hce : ce + B'.rm.cells = ce') (hsl : sl + B'.rm.slots = sl') (hc : ce' ≤ B.rm.cells) (hs : sl' ≤ B.rm.slots)
    (r : ∀ v h' σ', (∀ x, σ x → σ' x) → Q' v h' σ' → Go l Z a0 EL n0 kn B D Q h' σ' ce' sl' (pc + 3) Ls (push v rest)) : Go l Z a0 EL n0 kn B D Q h σ ce sl pc Ls st := by
  subst hce hsl
  refine called W hM w4 w3 hf hl hc hs (fun T vm0 locs X h1 h4 h5 ok {Pre Pst} hB hpre => ?_) r
  obtain ⟨mk, methM, hnamed, hmethM, hstM, habM⟩ := Cond.instanceMethod_spec (mv (s := D.s.setVm vm0) (args := D.args) h4 w6)
  obtain ⟨methM', cM, hmethM', -, -, -, -, -, -, hsigM⟩ := Cond.code_spec hnamed (mv (s := D.s.setVm vm0) (args := D.args) h4 w4)
  cases hmethM.symm.trans hmethM'
  obtain ⟨c2, r2, m2, -, -, q3, -, kP, hkP, hkPi⟩ := Cond.selects_spec (mv (s := D.s.setVm vm0) (args := D.args) h4 w5)
  cases hnamed.symm.trans q3
  have hpriv := Cond.privateMethod_at (mvP (s := D.s.setVm vm0) (args := D.args) h4 w2)
  obtain ⟨cell, k, hcell, -, -, hns, -⟩ := E
  have hselP : selectMethod D.e.platform (D.s.setVm vm0).vm cell.cls mk = .method mk := selectMethod_private hmethM (hpriv mk methM hnamed hmethM)
  obtain ⟨vm₁, X₁, hstep₁⟩ := X.invokevirtual ok.1 (s := D.s.setVm vm0) h5 (mv (s := D.s.setVm vm0) h4 w1) hnamed hmethM hstM hkP hkPi hy (a := a) (cell := cell) (by rw [h1]; exact hcell) (fun q e => by rw [e] at hns; cases hns) hselP hmethM habM hkP hkPi (g := mkF D.m pc Ls st) rfl (argsL := argsL) (rest := rest) (hlen _ hsigM) hst (Jvm.hb ok.2.1 hd)
  obtain ⟨v, Bp, X', hS, hgr, hpost, hsteps⟩ := hB D.m D.meth D.c ⟨T.setVm vm₁, locs, ce, sl⟩ { mkF D.m pc Ls st with stack := rest } (.invokevirtual ix) mk (.ref a :: argsL).toArray X₁ rfl (hsz.trans ok.2.2.1.symm) (Jvm.hb ok.2.1 hd) (by show 2 * 0 + _ ≤ _; rw [hW]; omega) (X₁.named hnamed) (hpre vm₁ X₁.warmed)
  exact ⟨v, vm₁, Bp, X₁.warmed, X', hS, hgr, hpost, (hstep₁ _ fun acts => by rw [doInvoke_state]; exact Steps.refl _).trans hsteps⟩
/-- super.m(..) -/
theorem callUp (pc : Nat) {ix : Nat} {argsL rest : List Value} (C : String) (W : Nat) (hd : decode B.bs pc = .ok (.invokespecial ix, 3)) (w1 : (Jvm.Cond.methodLink B.y.cls ix B'.y).before a0 Z = true) (nf : NotFace Z B'.y) (w6 : (Jvm.Cond.instanceMethod B'.y).before a0 Z = true) (w7 : (Jvm.Cond.superclass B.y.cls B'.y.cls).before a0 Z = true) (w3 : (Jvm.Cond.initialized B'.y.cls).before a0 Z = true) (w4 : (Jvm.Cond.code B'.y B'.bs B'.ml B'.rt).before a0 Z = true) (hn : B'.y.name ≠ "<init>") (hy : notMH B'.y)
    (E : Exa Z h a C) (hM : Con l Z EL n0 kn B' [] σ (.ref a :: argsL).toArray h Q') (hlen : ∀ sig, parseMethodDescriptor B'.y.desc = some sig → argsL.length = sig.parameters.length) (hst : st = argsL.reverse ++ .ref a :: rest) (hW : (rest.map fun v => v.category).sum = W) (hsz : Ls.size = B.ml)
    (hf : B'.rm.frames + 1 ≤ B.rm.frames) (hl : W + (B'.ml + 11) + B'.rm.locals ≤ B.rm.locals) {ce' sl' : Nat} (hce : ce + B'.rm.cells = ce') (hsl : sl + B'.rm.slots = sl') (hc : ce' ≤ B.rm.cells) (hs : sl' ≤ B.rm.slots)
    (r : ∀ v h' σ', (∀ x, σ x → σ' x) → Q' v h' σ' → Go l Z a0 EL n0 kn B D Q h' σ' ce' sl' (pc + 3) Ls (push v rest)) : Go l Z a0 EL n0 kn B D Q h σ ce sl pc Ls st := by
  subst hce hsl
  exact called W hM w4 w3 hf hl hc hs (fun T vm0 locs X h1 h4 h5 ok {Pre Pst} hB hpre =>
    superBackS X ok.1 (s := D.s.setVm vm0) h4 h5 w1 (same_of w6 nf hy) w6 w7 hn hB h1 (Ins.self E) (g := mkF D.m pc Ls st) rfl (hsz.trans ok.2.2.1.symm) w4 (argsL := argsL) (rest := rest) hlen hst (by show 2 * 0 + _ ≤ _; rw [hW]; omega) (Jvm.hb ok.2.1 hd) hpre) r
end Calls2
end Jvm.Road
namespace Jvm.Road
open Jvm Jvm.ClassFile Sem Op Lib Jvm.Free Jvm.Stand Jvm.LawKit Jvm.RoadKit Bundle
/-- a digit's char -/
def dc (k : Nat) : Int32 := Nat.toInt32 (48 + k)
def decN (n : Nat) : List Int32 := if n < 10 then [dc n] else decN (n / 10) ++ [dc (n % 10)]
termination_by n
theorem decN_lt {n : Nat} (h : n < 10) : decN n = [dc n] := by rw [decN, if_pos h]
theorem decN_ge {n : Nat} (h : 10 ≤ n) : decN n = decN (n / 10) ++ [dc (n % 10)] := by rw [decN, if_neg (by omega)]
theorem decN_100 {n : Nat} (h : 100 ≤ n) : decN n = decN (n / 100) ++ [dc (n % 100 / 10), dc (n % 100 % 10)] := by
  rw [decN_ge (by omega), decN_ge (show 10 ≤ n / 10 by omega), List.append_assoc, Nat.div_div_eq_div_mul, show n / 10 % 10 = n % 100 / 10 by omega, show n % 10 = n % 100 % 10 by omega]; rfl
theorem decN_len : ∀ (k n : Nat), n < 10 ^ (k + 1) → (k = 0 ∨ 10 ^ k ≤ n) → (decN n).length = k + 1
  | 0, n, h, _ => by rw [decN_lt (by simpa using h)]; rfl
  | k + 1, n, h, q => by
    have q : 10 ^ (k + 1) ≤ n := q.resolve_left (by omega)
    have e : 10 ^ (k + 1 + 1) = 10 ^ (k + 1) * 10 := Nat.pow_succ ..
    have e2 : 10 ^ (k + 1) = 10 ^ k * 10 := Nat.pow_succ ..
    have e3 : 0 < 10 ^ k := Nat.pow_pos (by omega)
    rw [decN_ge (by omega), List.length_append, decN_len k (n / 10) (by omega) (by by_cases hk : k = 0; exact Or.inl hk; exact Or.inr (by omega))]; rfl
theorem decN_pos (n : Nat) : 1 ≤ (decN n).length := by
  rw [decN]; split
  · simp
  · simp
theorem dc_int {k : Nat} (h : k < 10) : (dc k).toInt = 48 + k := by unfold dc; rw [n32 (by omega)]; omega
theorem decN_lat (n : Nat) : ∀ c ∈ decN n, 0 ≤ c.toInt ∧ c.toInt < 256 := by
  induction n using Nat.strongRecOn with
  | _ n ih =>
    intro c hc
    by_cases h : n < 10
    · rw [decN_lt h] at hc; cases List.mem_singleton.mp hc; rw [dc_int h]; omega
    · rw [decN_ge (by omega)] at hc
      rcases List.mem_append.mp hc with q | q
      · exact ih _ (by omega) c q
      · cases List.mem_singleton.mp q; rw [dc_int (by omega)]; omega
theorem decN_get : ∀ (n i : Nat) (hi : i < (decN n).length), (decN n)[i] = dc (n / 10 ^ ((decN n).length - 1 - i) % 10) := by
  intro n
  induction n using Nat.strongRecOn with
  | _ n ih =>
    intro i hi
    by_cases h : n < 10
    · simp only [decN_lt h, List.length_singleton] at hi ⊢
      have : i = 0 := by omega
      subst this
      simp [Nat.mod_eq_of_lt h]
    · have e := decN_ge (show 10 ≤ n by omega)
      have hl : (decN n).length = (decN (n / 10)).length + 1 := by rw [e, List.length_append]; rfl
      by_cases hk : i < (decN (n / 10)).length
      · have h1 : (decN n)[i] = (decN (n / 10))[i] := by simp only [e]; rw [List.getElem_append_left hk]
        rw [h1, ih _ (by omega) i hk, hl]
        have e2 : (decN (n / 10)).length + 1 - 1 - i = ((decN (n / 10)).length - 1 - i) + 1 := by omega
        rw [e2, Nat.pow_succ, Nat.mul_comm, Nat.div_div_eq_div_mul]
      · have hi2 : i = (decN (n / 10)).length := by omega
        have h1 : (decN n)[i] = dc (n % 10) := by simp only [e]; rw [List.getElem_append_right (by omega)]; simp [hi2]
        rw [h1, hl, hi2]; simp
/-- an int in decimal -/
def dec (x : Int32) : List Int32 := if x.toInt < 0 then 45 :: decN x.toInt.natAbs else decN x.toInt.natAbs
theorem dec_lat (x : Int32) : ∀ c ∈ dec x, 0 ≤ c.toInt ∧ c.toInt < 256 := by
  intro c hc; unfold dec at hc; split at hc
  · rcases List.mem_cons.mp hc with q | q
    · rw [q]; decide
    · exact decN_lat _ c q
  · exact decN_lat _ c hc
theorem set_last (U T : List Value) (v : Value) (P : Nat) (h : U.length = P + 1) : (U ++ T).set P v = U.take P ++ v :: T := by
  rw [List.set_append_left _ _ (by omega), List.set_eq_take_append_cons_drop, if_pos (by omega), List.drop_of_length_le (by omega), List.append_assoc]; rfl
theorem put_wr (cs ds : List Int32) (r : List Value) (hl : ds.length ≤ r.length) : (cs.map byt ++ r).take cs.length ++ (ds.map byt ++ (cs.map byt ++ r).drop (cs.length + ds.length)) = (cs ++ ds).map byt ++ r.drop ds.length := by
  have e1 : (cs.map byt).length = cs.length := List.length_map _
  rw [List.take_append_of_le_length (by omega), List.take_of_length_le (by omega), List.map_append, ← e1, ← List.drop_drop, List.drop_left, List.append_assoc]
def OnesL : List Value := (List.range 100).map fun i => byt (dc (i % 10))
def TensL : List Value := (List.range 100).map fun i => byt (dc (i / 10))
theorem ones_at {k : Nat} (h : k < 100) : OnesL[k]? = some (byt (dc (k % 10))) := by unfold OnesL; rw [List.getElem?_map, List.getElem?_range h]; rfl
theorem tens_at {k : Nat} (h : k < 100) : TensL[k]? = some (byt (dc (k / 10))) := by unfold TensL; rw [List.getElem?_map, List.getElem?_range h]; rfl
theorem byt_dc {k : Nat} (h : k < 10) : byt (dc k) = .int (dc k) := (by decide +kernel : ∀ i : Fin 10, byt (dc i.1) = .int (dc i.1)) ⟨k, h⟩
theorem nar_dc {k : Nat} (h : k < 10) : nar .byte (dc k) = dc k := (by decide +kernel : ∀ i : Fin 10, nar .byte (dc i.1) = dc i.1) ⟨k, h⟩
theorem div100 {x : Int32} {m : Nat} (hm : m ≤ 2147483648) (hx : x.toInt = -(m : Int)) : (x / 100).toInt = -((m / 100 : Nat) : Int) := by
  rw [Int32.toInt_div, hx, show (100 : Int32).toInt = 100 from rfl, Int.neg_tdiv]
  rw [show (m : Int).tdiv 100 = ((m / 100 : Nat) : Int) by rw [Int.tdiv_eq_ediv_of_nonneg (by omega)]; omega]
  rw [Int.bmod_eq_of_le] <;> omega
theorem rem100 {x : Int32} {m : Nat} (hm : m ≤ 2147483648) (hx : x.toInt = -(m : Int)) : (x / 100 * 100 - x).toInt = ((m % 100 : Nat) : Int) := by
  have h1 := div100 hm hx
  rw [Int32.toInt_sub, Int32.toInt_mul, h1, hx, show (100 : Int32).toInt = 100 from rfl]
  rw [Int.bmod_eq_of_le (n := -((m / 100 : Nat) : Int) * 100) (by omega) (by omega)]
  rw [Int.bmod_eq_of_le] <;> omega
theorem neg_int {x : Int32} {m : Nat} (hm : m < 2147483648) (hx : x.toInt = -(m : Int)) : (-x).toInt = (m : Int) := by
  rw [Int32.toInt_neg, hx, Int.bmod_eq_of_le] <;> omega
theorem neg_nat {x : Int32} (hx : 0 ≤ x.toInt) : (-x).toInt = -((x.toInt.natAbs : Nat) : Int) := by
  have := Int32.toInt_lt x
  rw [Int32.toInt_neg, Int.bmod_eq_of_le] <;> omega
theorem nat_le (x : Int32) : x.toInt.natAbs ≤ 2147483648 := by
  have := Int32.toInt_lt x; have := Int32.le_toInt x; omega
theorem lt0 (x : Int32) : x < 0 ↔ x.toInt < 0 := by rw [Int32.lt_iff_toInt_lt]; rfl
theorem pred32 (i : Nat) : (i + 1).toInt32 + (-1) = i.toInt32 := by rw [← succ32, Int32.add_assoc]; exact Int32.add_zero _
theorem decN_le : ∀ (k n : Nat), n < 10 ^ (k + 1) → (decN n).length ≤ k + 1
  | 0, n, h => by rw [decN_lt (by simpa using h)]; exact Nat.le_refl _
  | k + 1, n, h => by
    by_cases q : n < 10
    · rw [decN_lt q]; simp
    · have e : 10 ^ (k + 1 + 1) = 10 ^ (k + 1) * 10 := Nat.pow_succ ..
      rw [decN_ge (by omega), List.length_append]
      have := decN_le k (n / 10) (by omega)
      simp only [List.length_singleton]; omega
theorem dec_le (x : Int32) : (dec x).length ≤ 11 := by
  have h := decN_le 9 x.toInt.natAbs (by have := nat_le x; omega)
  unfold dec; split
  · rw [List.length_cons]; omega
  · omega
theorem dec_pos (x : Int32) : 1 ≤ (dec x).length := by
  unfold dec; split
  · simp
  · exact decN_pos _
def PWL : List Value := [.long 1, .long 10, .long 100, .long 1000, .long 10000, .long 100000, .long 1000000, .long 10000000, .long 100000000, .long 1000000000]
def pw (e : Nat) : Int64 := Int64.ofNat (10 ^ e)
theorem pw_at {e : Nat} (h : e < 10) : PWL[e]? = some (.long (pw e)) := (fun | 0 => rfl | 1 => rfl | 2 => rfl | 3 => rfl | 4 => rfl | 5 => rfl | 6 => rfl | 7 => rfl | 8 => rfl | 9 => rfl : ∀ i : Fin 10, PWL[i.1]? = some (.long (pw i.1))) ⟨e, h⟩
theorem pw_int {e : Nat} (h : e < 10) : (pw e).toInt = ((10 ^ e : Nat) : Int) := (by decide +kernel : ∀ i : Fin 10, (pw i.1).toInt = ((10 ^ i.1 : Nat) : Int)) ⟨e, h⟩
theorem pw_ne {e : Nat} (h : e < 10) : pw e ≠ 0 := (by decide +kernel : ∀ i : Fin 10, pw i.1 ≠ 0) ⟨e, h⟩
theorem ldiv_nat {v w : Int64} {m k : Nat} (hm : m ≤ 2147483648) (hk : 0 < k) (hv : v.toInt = (m : Int)) (hw : w.toInt = (k : Int)) : (v / w).toInt = ((m / k : Nat) : Int) := by
  have hle : m / k ≤ m := Nat.div_le_self m k
  rw [Int64.toInt_div, hv, hw, Int.tdiv_eq_ediv_of_nonneg (by omega), ← Int.natCast_ediv]
  generalize m / k = c at *
  rw [Int.bmod_eq_of_le] <;> omega
theorem lrem_nat {v : Int64} {m : Nat} (hm : m ≤ 2147483648) (hv : v.toInt = (m : Int)) : (v - v / 10 * 10).toInt = ((m % 10 : Nat) : Int) := by
  have h1 := ldiv_nat (w := 10) (k := 10) hm (by omega) hv rfl
  rw [Int64.toInt_sub, Int64.toInt_mul, h1, hv, show (10 : Int64).toInt = 10 from rfl]
  rw [Int.bmod_eq_of_le (n := ((m / 10 : Nat) : Int) * 10) (by omega) (by omega)]
  rw [Int.bmod_eq_of_le] <;> omega
theorem l2i_nat {v : Int64} {m : Nat} (hm : m < 2147483648) (hv : v.toInt = (m : Int)) : v.toInt32 = Nat.toInt32 m := by
  apply Int32.toInt_inj.mp
  rw [n32 hm, Int64.toInt_toInt32, hv, Int.bmod_eq_of_le] <;> omega
theorem digit_char {k : Nat} (h : k < 10) : nar .char (chr ((48 : Int32) + Nat.toInt32 k)) = dc k := (by decide +kernel : ∀ i : Fin 10, nar .char (chr ((48 : Int32) + Nat.toInt32 i.1)) = dc i.1) ⟨k, h⟩
theorem i2l_int (x : Int32) : (Int32.toInt64 x).toInt = x.toInt := Int32.toInt_toInt64 x
theorem lneg_nat {v : Int64} {m : Nat} (hm : m ≤ 2147483648) (hv : v.toInt = -(m : Int)) : (-v).toInt = (m : Int) := by
  rw [Int64.toInt_neg, hv, Int.bmod_eq_of_le] <;> omega
end Jvm.Road
namespace Jvm.Road
open Jvm Jvm.ClassFile Sem Op Lib Jvm.Free Jvm.Stand Jvm.LawKit Jvm.RoadKit Bundle
section Boot
variable {Z : State} {a : Addr} {args a0 : Array Value}
theorem Ary.boot {C n d : String} {k : Int32} {vs : List Value} {body : Term} (ev : (Term.static C n d).eval args Z none [] Z = some (.ref a)) (hx : (Cond.exactly (Term.static C n d) "[B").value args Z none Z [] = some true)
    (wa : (Jvm.Cond.arrayClass .byte).before a0 Z = true) (hl : (Cond.eq (Term.length (Term.static C n d)) (Term.int k)).value args Z none Z [] = some true) (hn : k.toInt = vs.length)
    (hall : (Cond.all (Term.static C n d) (Cond.eq (Term.elem (Term.static C n d) (Term.index 0)) body)).value args Z none Z [] = some true)
    (hb : ∀ i, i < vs.length → ∃ w, vs[i]? = some (.int w) ∧ fits .byte (.int w) = true ∧ body.eval args Z none [i] Z = some (.int w)) : Ary Z Z.heap a .byte vs := by
  obtain ⟨c, e1, e2, e3⟩ := len_lt (eq_int_of hl) ev
  have e4 := (arrayAt_spec e1).1
  have e5 : c.slots.size = vs.length := by
    have : k.toInt = (c.slots.size : Int) := by
      injection e3 with q; rw [q]; exact len_toInt e2
    omega
  obtain ⟨cell, kk, g1, g2, g3, g4, -⟩ := Exa.start ev hx
  cases e4.symm.trans g1
  obtain ⟨cA, kA, comp, hfind, hk, hkind⟩ := Cond.arrayClass_spec wa
  have hfind : Z.vm.findClass "[B" = some cA := hfind
  cases g2.symm.trans hfind
  have A : Arr Z Z.heap a c .byte := ⟨e4, ⟨(fun q e => by rw [e] at g4; cases g4), kA, hk, comp, hkind⟩, arrayAt_known e1⟩
  have hat : ∀ i, i < vs.length → c.slots[i]? = vs[i]? ∧ ∃ w, vs[i]? = some (.int w) ∧ fits .byte (.int w) = true := fun i hi => by
    obtain ⟨w, w1, w2, w3⟩ := hb i hi
    have q := Cond.all_elim ev e1 hall i (by omega)
    obtain ⟨x, y, q1, q2, -, k2⟩ := cmp_v (Or.inl q)
    cases w3.symm.trans q2
    obtain ⟨z, rfl⟩ := k2
    have r := gotT (Cond.eq_ints q1 w3) q
    subst r
    have hj : (Term.index 0).eval args Z none [i] Z = some (.int (Nat.toInt32 i)) := rfl
    have ev' : (Term.static C n d).eval args Z none [i] Z = some (.ref a) := ev
    have := (elem_in q1 ev' hj e4).2
    rw [(ix_of (n32 (i := i) (by omega))).2] at this
    exact ⟨this.trans w1.symm, _, w1, w2⟩
  refine ⟨c, A, ?_, by omega, fun v hv => ?_⟩
  · apply List.ext_getElem?
    intro i
    by_cases hi : i < vs.length
    · rw [Array.getElem?_toList]; exact (hat i hi).1
    · rw [List.getElem?_eq_none (Nat.le_of_not_lt hi), List.getElem?_eq_none (by rw [Array.length_toList, e5]; exact Nat.le_of_not_lt hi)]
  · obtain ⟨i, hi, rfl⟩ := List.getElem_of_mem hv
    obtain ⟨-, w, w1, w2⟩ := hat i hi
    rw [List.getElem?_eq_getElem hi] at w1
    rw [Option.some.inj w1]; exact w2
theorem ones_boot : ∀ i, i < OnesL.length → ∃ w, OnesL[i]? = some (.int w) ∧ fits .byte (.int w) = true ∧ (Term.add (Term.int 48) (Term.rem (Term.index 0) (Term.int 10))).eval args Z none [i] Z = some (.int w) := fun i hi => by
  have hi : i < 100 := by simpa [OnesL] using hi
  refine ⟨dc (i % 10), by rw [ones_at hi, byt_dc (by omega)], (by decide +kernel : ∀ i : Fin 10, fits .byte (.int (dc i.1)) = true) ⟨i % 10, by omega⟩, ?_⟩
  simp only [Term.eval, List.getElem?_cons_zero, Option.map_some, Option.bind_eq_bind, Option.bind_some]
  have := (by decide +kernel : ∀ i : Fin 100, (48 : Int32) + (Nat.toInt32 i.1) % 10 = dc (i.1 % 10)) ⟨i, hi⟩
  simpa using this
theorem tens_boot : ∀ i, i < TensL.length → ∃ w, TensL[i]? = some (.int w) ∧ fits .byte (.int w) = true ∧ (Term.add (Term.int 48) (Term.div (Term.index 0) (Term.int 10))).eval args Z none [i] Z = some (.int w) := fun i hi => by
  have hi : i < 100 := by simpa [TensL] using hi
  refine ⟨dc (i / 10), by rw [tens_at hi, byt_dc (by omega)], (by decide +kernel : ∀ i : Fin 10, fits .byte (.int (dc i.1)) = true) ⟨i / 10, by omega⟩, ?_⟩
  simp only [Term.eval, List.getElem?_cons_zero, Option.map_some, Option.bind_eq_bind, Option.bind_some]
  have := (by decide +kernel : ∀ i : Fin 100, (48 : Int32) + (Nat.toInt32 i.1) / 10 = dc (i.1 / 10)) ⟨i, hi⟩
  simpa using this
end Boot
end Jvm.Road
namespace Jvm.Road
open Jvm Jvm.ClassFile Sem Op Lib Jvm.Free Jvm.Stand Jvm.LawKit Jvm.RoadKit Bundle
/-- the array at a is over the class C -/
def Ova (Z : State) (h : Heap) (a : Addr) (C : String) : Prop := ∃ cell : Cell, h[a]? = some cell ∧ Ovr Z cell.cls C
theorem Ova.keep {Z : State} {h h' : Heap} {a : Addr} {C : String} {ws : List Addr} (F : Ova Z h a C) (K : Keep h h' ws) : Ova Z h' a C := by
  obtain ⟨c, e, O⟩ := F
  obtain ⟨c', e', q, -⟩ := K.2.2 a c e
  exact ⟨c', e', by rw [q]; exact O⟩
section Refs
variable {l : Launch} {Z : State} {a0 : Array Value} {EL : List (String × Nat)} {n0 : Nat} {kn : Bool} {B B' : Bdy} {D : Dyn} {Q Q' : Post} {h : Heap} {σ : Addr → Prop} {ce sl : Nat} {Ls : Array Slot} {st : List Value} {a : Addr}
theorem anewarray (pc : Nat) {ix : Nat} (C : String) (n cap : Nat) {z : Int32} (hd : decode B.bs pc = .ok (.anewarray ix, 3)) (w1 : (Jvm.Cond.classLink B.y.cls ix C).before a0 Z = true) (w2 : (Jvm.Cond.arrayOver (.object C)).before a0 Z = true) (hz : z.toInt = (n : Int)) (hcap : n ≤ cap) (hb : cap * 8 ≤ 536870912) {ce' sl' : Nat} (hce : ce + 1 = ce') (hsl : sl + cap = sl') (hc : ce' ≤ B.rm.cells) (hs : sl' ≤ B.rm.slots)
    (r : ∀ a h' σ', a = h.size → Keep h h' [] → a < h'.size → (∀ x, σ x → σ' x) → σ' a → Ary Z h' a (.object C) (List.replicate n .null) → Ova Z h' a C → Go l Z a0 EL n0 kn B D Q h' σ' ce' sl' (pc + 3) Ls (.ref a :: st)) : Go l Z a0 EL n0 kn B D Q h σ ce sl pc Ls (.int z :: st) := by
  subst hce hsl
  exact made (P := fun h' => Ary Z h' h.size (.object C) (List.replicate n .null) ∧ Ova Z h' h.size C)
    (fun T vm0 locs X h1 h4 h5 ok => by
      obtain ⟨q1, q2⟩ := ix_of hz
      obtain ⟨T', h', cA, X', e', E, A, O, s'⟩ := newR X ok.1 (s := D.s.setVm vm0) h4 h5 w1 w2 h1 (g := mkF D.m pc Ls (.int z :: st)) rfl (Jvm.hb ok.2.1 hd) rfl q1 (cap := cap) (by rw [q2]; exact hcap) hb hc hs
      refine ⟨T', h', X', e', E, A.lt, ⟨⟨_, A, ?_, ?_, ?_⟩, ⟨_, A.1, O⟩⟩, s'⟩
      · show (Array.replicate z.toNatClampNeg (defaultValue (.object C))).toList = _
        rw [q2, Array.toList_replicate]; rfl
      · rw [List.length_replicate]; omega
      · intro v hv
        rw [(List.mem_replicate.mp hv).2]; rfl)
    (fun h' σ' K hlt m1 m2 P => r h.size h' σ' rfl K hlt m1 m2 P.1 P.2)
theorem newarrayE (pc : Nat) {aty : ArrayType} (ty : FieldType) (n cap : Nat) {z : Int32} (ad : String) (had : "[" ++ (newarray.typeOf aty).toString = ad) (hd : decode B.bs pc = .ok (.newarray aty, 2)) (hty : newarray.typeOf aty = ty) (w : (Jvm.Cond.arrayClass ty).before a0 Z = true) (hz : z.toInt = (n : Int)) (hcap : n ≤ cap) (hb : cap * 8 ≤ 536870912) {ce' sl' : Nat} (hce : ce + 1 = ce') (hsl : sl + cap = sl') (hc : ce' ≤ B.rm.cells) (hs : sl' ≤ B.rm.slots)
    (r : ∀ a h' σ', a = h.size → Keep h h' [] → a < h'.size → (∀ x, σ x → σ' x) → σ' a → Ary Z h' a ty (List.replicate n (defaultValue ty)) → Exa Z h' a ad → Go l Z a0 EL n0 kn B D Q h' σ' ce' sl' (pc + 2) Ls (.ref a :: st)) : Go l Z a0 EL n0 kn B D Q h σ ce sl pc Ls (.int z :: st) := by
  subst hce hsl
  exact made (P := fun h' => Ary Z h' h.size ty (List.replicate n (defaultValue ty)) ∧ Exa Z h' h.size ad)
    (fun T vm0 locs X h1 h4 h5 ok => by
      subst hty
      obtain ⟨q1, q2⟩ := ix_of hz
      obtain ⟨T', h', cA, X', e', E, A, EE, s'⟩ := newPE X ok.1 (s := D.s.setVm vm0) h4 w h1 (g := mkF D.m pc Ls (.int z :: st)) rfl (Jvm.hb ok.2.1 hd) rfl q1 (cap := cap) (by rw [q2]; exact hcap) hb hc hs had
      refine ⟨T', h', X', e', E, A.lt, ⟨⟨_, A, ?_, ?_, ?_⟩, EE⟩, s'⟩
      · show (Array.replicate z.toNatClampNeg (defaultValue (newarray.typeOf aty))).toList = _
        rw [q2, Array.toList_replicate]
      · rw [List.length_replicate]; omega
      · intro v hv
        rw [(List.mem_replicate.mp hv).2]
        cases aty <;> rfl)
    (fun h' σ' K hlt m1 m2 P => r h.size h' σ' rfl K hlt m1 m2 P.1 P.2)
theorem aastore (pc : Nat) {C : String} {vs : List Value} {j : Int32} {y : Addr} (i : Nat) (hd : decode B.bs pc = .ok (.aastore, 1)) (A : Ary Z h a (.object C) vs) (O : Ova Z h a C) (I : Ins Z h y C true) (hj : j.toInt = (i : Int)) (hi : i < vs.length) (hσ : σ a)
    (r : ∀ h', Keep h h' [a] → Ary Z h' a (.object C) (vs.set i (.ref y)) → Go l Z a0 EL n0 kn B D Q h' σ ce sl (pc + 1) Ls st) : Go l Z a0 EL n0 kn B D Q h σ ce sl pc Ls (.ref y :: .int j :: .ref a :: st) :=
  wrote hσ (i := i) (v := .ref y) (fun T vm0 locs X h1 h4 h5 ok => by
    obtain ⟨c, Ar, e, -⟩ := A
    obtain ⟨c', e', Ov⟩ := O
    cases Ar.1.symm.trans e'
    have := stR X ok.1 (s := D.s.setVm vm0) h4 h1 Ar (Ary.inb e hj hi) rfl (Sto.of Ar Ov I) (g := mkF D.m pc Ls (.ref y :: .int j :: .ref a :: st)) rfl rfl (Jvm.hb ok.2.1 hd)
    rw [(ix_of hj).2] at this; exact this)
    (fun h' W K => r h' K (A.wr W rfl))
theorem callF (pc : Nat) {ix cnt : Nat} {xi : MethodName} {argsL rest : List Value} (C : String) (W : Nat) (hd : decode B.bs pc = .ok (.invokeinterface ix cnt, 5)) (w1 : (Jvm.Cond.methodLink B.y.cls ix xi).before a0 Z = true) (w2 : (Jvm.Cond.declares xi).before a0 Z = true) (w7 : (Jvm.Cond.interfaceMethod xi.cls xi.cls xi.name xi.desc).before a0 Z = true)
    (w5 : (Jvm.Cond.selects C xi B'.y).before a0 Z = true) (w6 : (Jvm.Cond.instanceMethod B'.y).before a0 Z = true) (w8 : (Jvm.Cond.publicMethod B'.y).before a0 Z = true) (w9 : (Jvm.Cond.unhidden C xi.name xi.desc).before a0 Z = true) (w10 : (Jvm.Cond.castable C xi.cls).before a0 Z = true) (w3 : (Jvm.Cond.initialized B'.y.cls).before a0 Z = true) (w4 : (Jvm.Cond.code B'.y B'.bs B'.ml B'.rt).before a0 Z = true) (hy : notMH xi) (hk : ((Jvm.Cond.interfaceMethod xi.cls xi.cls xi.name xi.desc).onTables && (Jvm.Cond.interfaceMethod xi.cls xi.cls xi.name xi.desc).keepsFace) = true)
    (E : Exa Z h a C) (hM : Con l Z EL n0 kn B' [] σ (.ref a :: argsL).toArray h Q') (hlen : ∀ sig, parseMethodDescriptor xi.desc = some sig → argsL.length = sig.parameters.length) (hst : st = argsL.reverse ++ .ref a :: rest) (hW : (rest.map fun v => v.category).sum = W) (hsz : Ls.size = B.ml)
    (hf : B'.rm.frames + 1 ≤ B.rm.frames) (hl : W + (B'.ml + 11) + B'.rm.locals ≤ B.rm.locals) {ce' sl' : Nat} (hce : ce + B'.rm.cells = ce') (hsl : sl + B'.rm.slots = sl') (hc : ce' ≤ B.rm.cells) (hs : sl' ≤ B.rm.slots)
    (r : ∀ v h' σ', (∀ x, σ x → σ' x) → Q' v h' σ' → Go l Z a0 EL n0 kn B D Q h' σ' ce' sl' (pc + 5) Ls (push v rest)) : Go l Z a0 EL n0 kn B D Q h σ ce sl pc Ls st := by
  subst hce hsl
  exact called W hM w4 w3 hf hl hc hs (fun T vm0 locs X h1 h4 h5 ok {Pre Pst} hB hpre => by
    obtain ⟨cq, kq, qa, qb, qc⟩ := isOf (s := D.s.setVm vm0) h4 h1 E
    exact X.interfaceBackS ok.1 (s := D.s.setVm vm0) (C := C) h5 (mv (s := D.s.setVm vm0) h4 w1) (mv (s := D.s.setVm vm0) h4 w2) (mv (s := D.s.setVm vm0) h4 w7 hk) (mv (s := D.s.setVm vm0) h4 w5) (mv (s := D.s.setVm vm0) h4 w6) (mv (s := D.s.setVm vm0) h4 w8) (mv (s := D.s.setVm vm0) h4 w9) (mv (s := D.s.setVm vm0) h4 w10) hy hB qa qb qc (g := mkF D.m pc Ls st) rfl (hsz.trans ok.2.2.1.symm) (Steps.refl _) (argsL := argsL) (rest := rest) hlen hst (by show 2 * 0 + _ ≤ _; rw [hW]; omega) (Jvm.hb ok.2.1 hd) hpre) r
end Refs
end Jvm.Road
namespace Jvm.Pilot.@@N@@
open Jvm Jvm.ClassFile Sem Op Lib Jvm.Free Jvm.Stand Jvm.LawKit Jvm.RoadKit Bundle Jvm.Pilot.@@N@@.Jvm.D
set_option maxRecDepth 65536
def bCmp5 : Road.Bdy := (⟨"java/lang/StringUTF16", "compress", "([CI[BII)I"⟩, jdk_52_method_21_code, 7, (some .int), { frames := 0, cells := 0, slots := 0, locals := 0 })
theorem bCmp5_d0 : decode bCmp5.bs 0 = .ok (.iconst 0, 1) := by decide +kernel
theorem bCmp5_d1 : decode bCmp5.bs 1 = .ok (.istore 5, 2) := by decide +kernel
theorem bCmp5_d3 : decode bCmp5.bs 3 = .ok (.iload 5, 2) := by decide +kernel
theorem bCmp5_d5 : decode bCmp5.bs 5 = .ok (.iload 4, 2) := by decide +kernel
theorem bCmp5_d7 : decode bCmp5.bs 7 = .ok (.if_icmp .ge 37, 3) := by decide +kernel
theorem bCmp5_d10 : decode bCmp5.bs 10 = .ok (.aload_n 0, 1) := by decide +kernel
theorem bCmp5_d11 : decode bCmp5.bs 11 = .ok (.iload_n 1, 1) := by decide +kernel
theorem bCmp5_d12 : decode bCmp5.bs 12 = .ok (.caload, 1) := by decide +kernel
theorem bCmp5_d13 : decode bCmp5.bs 13 = .ok (.istore 6, 2) := by decide +kernel
theorem bCmp5_d15 : decode bCmp5.bs 15 = .ok (.iload 6, 2) := by decide +kernel
theorem bCmp5_d17 : decode bCmp5.bs 17 = .ok (.sipush 255, 3) := by decide +kernel
theorem bCmp5_d20 : decode bCmp5.bs 20 = .ok (.if_icmp .le 6, 3) := by decide +kernel
theorem bCmp5_d23 : decode bCmp5.bs 23 = .ok (.iload 5, 2) := by decide +kernel
theorem bCmp5_d25 : decode bCmp5.bs 25 = .ok (.ireturn, 1) := by decide +kernel
theorem bCmp5_d26 : decode bCmp5.bs 26 = .ok (.aload_n 2, 1) := by decide +kernel
theorem bCmp5_d27 : decode bCmp5.bs 27 = .ok (.iload_n 3, 1) := by decide +kernel
theorem bCmp5_d28 : decode bCmp5.bs 28 = .ok (.iload 6, 2) := by decide +kernel
theorem bCmp5_d30 : decode bCmp5.bs 30 = .ok (.i2b, 1) := by decide +kernel
theorem bCmp5_d31 : decode bCmp5.bs 31 = .ok (.bastore, 1) := by decide +kernel
theorem bCmp5_d32 : decode bCmp5.bs 32 = .ok (.iinc 1 1, 3) := by decide +kernel
theorem bCmp5_d35 : decode bCmp5.bs 35 = .ok (.iinc 3 1, 3) := by decide +kernel
theorem bCmp5_d38 : decode bCmp5.bs 38 = .ok (.iinc 5 1, 3) := by decide +kernel
theorem bCmp5_d41 : decode bCmp5.bs 41 = .ok (.goto (-38), 3) := by decide +kernel
theorem bCmp5_d44 : decode bCmp5.bs 44 = .ok (.iload 4, 2) := by decide +kernel
theorem bCmp5_d46 : decode bCmp5.bs 46 = .ok (.ireturn, 1) := by decide +kernel
theorem bCmp5_pd : parseMethodDescriptor "([CI[BII)I" = some ⟨[(.array .char), .int, (.array .byte), .int, .int], (some .int)⟩ := by decide +kernel
theorem bCmp5_pn : plainFor bCmp5.y = true := plainFor_of_name (show plainName "java/lang/StringUTF16" = true from by first | (simp [plainName, overriddenIn]; done) | decide +kernel)
theorem cCmp5 (l : Launch) (Z : State) (a0 : Array Value) (hw : ∀ d ∈ tables_1, d.before a0 Z = true) (n0 : Nat) (hEW : EW Z a0 consts_1) (b d : Addr) (cs : List Int32) (h0 : Heap) (σ : Addr → Prop) (A : Road.Ary Z h0 b .char (cs.map .int)) (Dd : Road.Ary Z h0 d .byte (List.replicate cs.length (.int 0))) (hlat : ∀ c ∈ cs, 0 ≤ c.toInt ∧ c.toInt < 256) (hbd : b ≠ d) (sd : σ d) :
    Road.Con l Z consts_1 n0 false bCmp5 [] σ #[(.ref b), (.int (0 : Int32)), (.ref d), (.int (0 : Int32)), (.int (Nat.toInt32 cs.length))] h0 (fun v h2 _ => v = some (.int (Nat.toInt32 cs.length)) ∧ Keep h0 h2 [d] ∧ Road.Ary Z h2 d .byte (cs.map Road.byt)) := by
  refine Road.Con.of bCmp5_pn hEW #[.val (.ref b), .val (.int (0 : Int32)), .val (.ref d), .val (.int (0 : Int32)), .val (.int (Nat.toInt32 cs.length)), .unset, .unset] (fun m => Road.ent (Road.laid1 rfl (Road.laid1 rfl (Road.laid1 rfl (Road.laid1 rfl (Road.laid1 rfl Road.laid0))))) (k := 2) rfl rfl) ?_
  intro D hD
  have hn : cs.length < 2147483648 := by have := A.small; rwa [List.length_map] at this
  refine Road.iconst 0 (0 : Int32) bCmp5_d0 rfl ?_
  refine Road.istore 1 #[.val (.ref b), .val (.int (0 : Int32)), .val (.ref d), .val (.int (0 : Int32)), .val (.int (Nat.toInt32 cs.length)), .val (.int (0 : Int32)), .unset] bCmp5_d1 rfl ?_
  have loop : ∀ r k, k + r = cs.length → ∀ (h : Heap) (w : Slot), Road.W1 w → Keep h0 h [d] → Road.Ary Z h d .byte ((cs.take k).map Road.byt ++ List.replicate r (.int 0)) → Road.Go l Z a0 consts_1 n0 false bCmp5 D (fun v h2 _ => v = some (.int (Nat.toInt32 cs.length)) ∧ Keep h0 h2 [d] ∧ Road.Ary Z h2 d .byte (cs.map Road.byt)) h σ 0 0 3 #[.val (.ref b), .val (.int (Nat.toInt32 k)), .val (.ref d), .val (.int (Nat.toInt32 k)), .val (.int (Nat.toInt32 cs.length)), .val (.int (Nat.toInt32 k)), w] [] := by
    intro r
    induction r with
    | zero =>
      intro k hk h w hw1 K1 A1
      have hk' : k = cs.length := by omega
      subst hk'
      refine Road.iload 3 bCmp5_d3 rfl ?_
      refine Road.iload 5 bCmp5_d5 rfl ?_
      refine Road.icmp_ge 7 44 bCmp5_d7 rfl (fun hc7 => ?_) (fun q => absurd q Int32.lt_irrefl)
      refine Road.iload 44 bCmp5_d44 rfl ?_
      exact Road.iretI 46 bCmp5_d46 rfl (by decide) (by decide) (fun σ' m => ⟨rfl, K1, by simpa using A1⟩)
    | succ r ih =>
      intro k hk h w hw1 K1 A1
      have hk' : k < cs.length := by omega
      have hc := hlat _ (List.getElem_mem hk')
      have A2 := A.keep K1 (ninS hbd nin0)
      refine Road.iload 3 bCmp5_d3 rfl ?_
      refine Road.iload 5 bCmp5_d5 rfl ?_
      refine Road.icmp_ge 7 44 bCmp5_d7 rfl (fun q => absurd q (by rw [Decidable.not_not, Road.lt32 (by omega) hn]; omega)) (fun hc7 => ?_)
      refine Road.aloadN 10 bCmp5_d10 rfl ?_
      refine Road.iloadN 11 bCmp5_d11 rfl ?_
      refine Road.caload 12 k bCmp5_d12 A2 (Road.n32 (by omega)) (by rw [List.getElem?_map, List.getElem?_eq_getElem hk']; rfl) ?_
      refine Road.istore 13 #[.val (.ref b), .val (.int (Nat.toInt32 k)), .val (.ref d), .val (.int (Nat.toInt32 k)), .val (.int (Nat.toInt32 cs.length)), .val (.int (Nat.toInt32 k)), .val (.int cs[k])] bCmp5_d13 (by rcases hw1 with rfl | ⟨x, rfl⟩ <;> rfl) ?_
      refine Road.iload 15 bCmp5_d15 rfl ?_
      refine Road.sipush 17 (255 : Int32) bCmp5_d17 rfl ?_
      refine Road.icmp_le 20 26 bCmp5_d20 rfl (fun hc20 => ?_) (fun q => absurd q (by rw [Int32.lt_iff_toInt_lt]; have : (255 : Int32).toInt = 255 := rfl; omega))
      refine Road.aloadN 26 bCmp5_d26 rfl ?_
      refine Road.iloadN 27 bCmp5_d27 rfl ?_
      refine Road.iload 28 bCmp5_d28 rfl ?_
      refine Road.i2b 30 bCmp5_d30 ?_
      refine Road.bastore 31 k (Int8.toInt32 (Int32.toInt8 cs[k])) bCmp5_d31 A1 (Road.n32 (by omega)) (by simp; omega) (Road.nar_byte _) sd ?_
      intro h_1 K_2 A_3
      replace A1 := A_3
      refine Road.iinc 32 (1) #[.val (.ref b), .val (.int ((Nat.toInt32 k) + 1)), .val (.ref d), .val (.int (Nat.toInt32 k)), .val (.int (Nat.toInt32 cs.length)), .val (.int (Nat.toInt32 k)), .val (.int cs[k])] bCmp5_d32 rfl rfl rfl ?_
      refine Road.iinc 35 (1) #[.val (.ref b), .val (.int ((Nat.toInt32 k) + 1)), .val (.ref d), .val (.int ((Nat.toInt32 k) + 1)), .val (.int (Nat.toInt32 cs.length)), .val (.int (Nat.toInt32 k)), .val (.int cs[k])] bCmp5_d35 rfl rfl rfl ?_
      refine Road.iinc 38 (1) #[.val (.ref b), .val (.int ((Nat.toInt32 k) + 1)), .val (.ref d), .val (.int ((Nat.toInt32 k) + 1)), .val (.int (Nat.toInt32 cs.length)), .val (.int ((Nat.toInt32 k) + 1)), .val (.int cs[k])] bCmp5_d38 rfl rfl rfl ?_
      refine Road.goto 41 3 bCmp5_d41 rfl ?_
      rw [show (Value.int (Int8.toInt32 (Int32.toInt8 cs[k]))) = Road.byt cs[k] from rfl, Road.set_mid] at A1
      have := ih (k + 1) (by omega) h_1 (.val (.int cs[k])) (Or.inr ⟨_, rfl⟩) (K1.trans K_2 (by simp)) A1
      rw [← Road.succ32] at this
      exact this
  exact loop cs.length 0 (by omega) h0 .unset (Or.inl rfl) (Keep.refl _ _) (by simpa using Dd)
def bCfa : Road.Bdy := (⟨"java/lang/StringUTF16", "coderFromArrayLen", "([BI)B"⟩, jdk_52_method_15_code, 2, (some .byte), { frames := 0, cells := 0, slots := 0, locals := 0 })
theorem bCfa_d0 : decode bCfa.bs 0 = .ok (.iload_n 1, 1) := by decide +kernel
theorem bCfa_d1 : decode bCfa.bs 1 = .ok (.aload_n 0, 1) := by decide +kernel
theorem bCfa_d2 : decode bCfa.bs 2 = .ok (.arraylength, 1) := by decide +kernel
theorem bCfa_d3 : decode bCfa.bs 3 = .ok (.isub, 1) := by decide +kernel
theorem bCfa_d4 : decode bCfa.bs 4 = .ok (.bipush 31, 2) := by decide +kernel
theorem bCfa_d6 : decode bCfa.bs 6 = .ok (.iushr, 1) := by decide +kernel
theorem bCfa_d7 : decode bCfa.bs 7 = .ok (.i2b, 1) := by decide +kernel
theorem bCfa_d8 : decode bCfa.bs 8 = .ok (.ireturn, 1) := by decide +kernel
theorem bCfa_pd : parseMethodDescriptor "([BI)B" = some ⟨[(.array .byte), .int], (some .byte)⟩ := by decide +kernel
theorem bCfa_pn : plainFor bCfa.y = true := plainFor_of_name (show plainName "java/lang/StringUTF16" = true from by first | (simp [plainName, overriddenIn]; done) | decide +kernel)
theorem cCfa (l : Launch) (Z : State) (a0 : Array Value) (hw : ∀ d ∈ tables_1, d.before a0 Z = true) (n0 : Nat) (hEW : EW Z a0 consts_1) (d : Addr) (vs : List Value) (h0 : Heap) (σ : Addr → Prop) (A : Road.Ary Z h0 d .byte vs) :
    Road.Con l Z consts_1 n0 false bCfa [] σ #[(.ref d), (.int (Nat.toInt32 vs.length))] h0 (fun v h2 _ => v = some (.int 0) ∧ h0 = h2) := by
  refine Road.Con.of bCfa_pn hEW #[.val (.ref d), .val (.int (Nat.toInt32 vs.length))] (fun m => Road.ent (Road.laid1 rfl (Road.laid1 rfl Road.laid0)) (k := 0) rfl rfl) ?_
  intro D hD
  refine Road.iloadN 0 bCfa_d0 rfl ?_
  refine Road.aloadN 1 bCfa_d1 rfl ?_
  refine Road.alen 2 (Nat.toInt32 vs.length) bCfa_d2 A (n := vs.length) rfl rfl ?_
  refine Road.isub 3 bCfa_d3 ?_
  refine Road.bipush 4 (31 : Int32) bCfa_d4 rfl ?_
  refine Road.iushr 6 bCfa_d6 ?_
  refine Road.i2b 7 bCfa_d7 ?_
  exact Road.iret 8 0 bCfa_d8 (t := .byte) rfl (by simp) (by rw [Int32.sub_self]; rfl) (by decide) (by decide) (fun σ' m => ⟨rfl, rfl⟩)
def bCmp4 : Road.Bdy := (⟨"java/lang/StringUTF16", "compress", "([CII)[B"⟩, jdk_52_method_16_code, 6, (some (.array .byte)), { frames := 1, cells := 1, slots := 2, locals := 18 })
theorem bCmp4_d0 : decode bCmp4.bs 0 = .ok (.iload_n 2, 1) := by decide +kernel
theorem bCmp4_d1 : decode bCmp4.bs 1 = .ok (.newarray .byte, 2) := by decide +kernel
theorem bCmp4_d3 : decode bCmp4.bs 3 = .ok (.astore_n 3, 1) := by decide +kernel
theorem bCmp4_d4 : decode bCmp4.bs 4 = .ok (.aload_n 0, 1) := by decide +kernel
theorem bCmp4_d5 : decode bCmp4.bs 5 = .ok (.iload_n 1, 1) := by decide +kernel
theorem bCmp4_d6 : decode bCmp4.bs 6 = .ok (.aload_n 3, 1) := by decide +kernel
theorem bCmp4_d7 : decode bCmp4.bs 7 = .ok (.iconst 0, 1) := by decide +kernel
theorem bCmp4_d8 : decode bCmp4.bs 8 = .ok (.iload_n 2, 1) := by decide +kernel
theorem bCmp4_d9 : decode bCmp4.bs 9 = .ok (.invokestatic 115, 3) := by decide +kernel
theorem bCmp4_d12 : decode bCmp4.bs 12 = .ok (.istore 4, 2) := by decide +kernel
theorem bCmp4_d14 : decode bCmp4.bs 14 = .ok (.iload 4, 2) := by decide +kernel
theorem bCmp4_d16 : decode bCmp4.bs 16 = .ok (.iload_n 2, 1) := by decide +kernel
theorem bCmp4_d17 : decode bCmp4.bs 17 = .ok (.if_icmp .eq 40, 3) := by decide +kernel
theorem bCmp4_d20 : decode bCmp4.bs 20 = .ok (.aload_n 0, 1) := by decide +kernel
theorem bCmp4_d21 : decode bCmp4.bs 21 = .ok (.iload_n 1, 1) := by decide +kernel
theorem bCmp4_d22 : decode bCmp4.bs 22 = .ok (.iload_n 2, 1) := by decide +kernel
theorem bCmp4_d23 : decode bCmp4.bs 23 = .ok (.invokestatic 119, 3) := by decide +kernel
theorem bCmp4_d26 : decode bCmp4.bs 26 = .ok (.astore 5, 2) := by decide +kernel
theorem bCmp4_d28 : decode bCmp4.bs 28 = .ok (.aload 5, 2) := by decide +kernel
theorem bCmp4_d30 : decode bCmp4.bs 30 = .ok (.iload 4, 2) := by decide +kernel
theorem bCmp4_d32 : decode bCmp4.bs 32 = .ok (.invokestatic 71, 3) := by decide +kernel
theorem bCmp4_d35 : decode bCmp4.bs 35 = .ok (.sipush 255, 3) := by decide +kernel
theorem bCmp4_d38 : decode bCmp4.bs 38 = .ok (.if_icmp .gt 16, 3) := by decide +kernel
theorem bCmp4_d41 : decode bCmp4.bs 41 = .ok (.aload 5, 2) := by decide +kernel
theorem bCmp4_d43 : decode bCmp4.bs 43 = .ok (.iconst 0, 1) := by decide +kernel
theorem bCmp4_d44 : decode bCmp4.bs 44 = .ok (.aload_n 3, 1) := by decide +kernel
theorem bCmp4_d45 : decode bCmp4.bs 45 = .ok (.iconst 0, 1) := by decide +kernel
theorem bCmp4_d46 : decode bCmp4.bs 46 = .ok (.iload_n 2, 1) := by decide +kernel
theorem bCmp4_d47 : decode bCmp4.bs 47 = .ok (.invokestatic 123, 3) := by decide +kernel
theorem bCmp4_d50 : decode bCmp4.bs 50 = .ok (.iload_n 2, 1) := by decide +kernel
theorem bCmp4_d51 : decode bCmp4.bs 51 = .ok (.if_icmp .eq 6, 3) := by decide +kernel
theorem bCmp4_d54 : decode bCmp4.bs 54 = .ok (.aload 5, 2) := by decide +kernel
theorem bCmp4_d56 : decode bCmp4.bs 56 = .ok (.areturn, 1) := by decide +kernel
theorem bCmp4_d57 : decode bCmp4.bs 57 = .ok (.aload_n 3, 1) := by decide +kernel
theorem bCmp4_d58 : decode bCmp4.bs 58 = .ok (.areturn, 1) := by decide +kernel
theorem bCmp4_pd : parseMethodDescriptor "([CII)[B" = some ⟨[(.array .char), .int, .int], (some (.array .byte))⟩ := by decide +kernel
theorem bCmp4_pn : plainFor bCmp4.y = true := plainFor_of_name (show plainName "java/lang/StringUTF16" = true from by first | (simp [plainName, overriddenIn]; done) | decide +kernel)
theorem cCmp4 (l : Launch) (Z : State) (a0 : Array Value) (hw : ∀ d ∈ tables_1, d.before a0 Z = true) (n0 : Nat) (hEW : EW Z a0 consts_1) (b : Addr) (cs : List Int32) (h0 : Heap) (σ : Addr → Prop) (A : Road.Ary Z h0 b .char (cs.map .int)) (hcap : cs.length ≤ 2) (hlat : ∀ c ∈ cs, 0 ≤ c.toInt ∧ c.toInt < 256) :
    Road.Con l Z consts_1 n0 false bCmp4 [] σ #[(.ref b), (.int (0 : Int32)), (.int (Nat.toInt32 cs.length))] h0 (fun v h2 s2 => ∃ d, v = some (.ref d) ∧ h0.size ≤ d ∧ Keep h0 h2 [] ∧ s2 d ∧ Road.Ary Z h2 d .byte (cs.map Road.byt)) := by
  refine Road.Con.of bCmp4_pn hEW #[.val (.ref b), .val (.int (0 : Int32)), .val (.int (Nat.toInt32 cs.length)), .unset, .unset, .unset] (fun m => Road.ent (Road.laid1 rfl (Road.laid1 rfl (Road.laid1 rfl Road.laid0))) (k := 3) rfl rfl) ?_
  intro D hD
  refine Road.iloadN 0 bCmp4_d0 rfl ?_
  refine Road.newarray 1 .byte cs.length 2 bCmp4_d1 rfl (hw _ (List.mem_of_getElem? (i := 49) rfl)) (Road.n32 (by omega)) hcap (by decide) (ce' := 1) (sl' := 2) rfl rfl (by decide) (by decide) ?_
  intro d h_1 σ_2 g_3 K_4 lt_5 m_6 s_7 Ad
  have ne_b_d : b ≠ d := Nat.ne_of_lt (Nat.lt_of_lt_of_le A.lt (Nat.le_of_eq g_3.symm))
  replace A := A.keep K_4 nin0
  refine Road.astoreN 3 #[.val (.ref b), .val (.int (0 : Int32)), .val (.int (Nat.toInt32 cs.length)), .val (.ref d), .unset, .unset] bCmp4_d3 rfl ?_
  refine Road.aloadN 4 bCmp4_d4 rfl ?_
  refine Road.iloadN 5 bCmp4_d5 rfl ?_
  refine Road.aloadN 6 bCmp4_d6 rfl ?_
  refine Road.iconst 7 (0 : Int32) bCmp4_d7 rfl ?_
  refine Road.iloadN 8 bCmp4_d8 rfl ?_
  refine Road.callS (B' := bCmp5) 9 (argsL := [(.ref b), (.int (0 : Int32)), (.ref d), (.int (0 : Int32)), (.int (Nat.toInt32 cs.length))]) (rest := []) 0 bCmp4_d9 (hw _ (List.mem_of_getElem? (i := 293) rfl)) (hw _ (List.mem_of_getElem? (i := 294) rfl)) (hw _ (List.mem_of_getElem? (i := 291) rfl)) (hw _ (List.mem_of_getElem? (i := 295) rfl)) (by decide) (cCmp5 l Z a0 hw n0 hEW b d cs h_1 σ_2 A Ad hlat ne_b_d s_7) (lenOf bCmp5_pd rfl) rfl rfl rfl (by decide) (by decide) (ce' := 1) (sl' := 2) rfl rfl (by decide) (by decide) ?_
  rintro _ h_8 σ_9 m_10 ⟨rfl, K_11, Ad2⟩
  replace A := A.keep K_11 (ninS ne_b_d nin0)
  replace s_7 := m_10 _ s_7
  refine Road.istore 12 #[.val (.ref b), .val (.int (0 : Int32)), .val (.int (Nat.toInt32 cs.length)), .val (.ref d), .val (.int (Nat.toInt32 cs.length)), .unset] bCmp4_d12 rfl ?_
  refine Road.iload 14 bCmp4_d14 rfl ?_
  refine Road.iloadN 16 bCmp4_d16 rfl ?_
  refine Road.icmp_eq 17 57 bCmp4_d17 rfl (fun hc17 => ?_) (fun q => absurd q (by simp))
  refine Road.aloadN 57 bCmp4_d57 rfl ?_
  exact Road.aret 58 bCmp4_d58 (t := (.array .byte)) rfl rfl rfl (by decide) (by decide) (fun σ' m => ⟨d, rfl, Nat.le_of_eq g_3.symm, K_4.trans K_11 (by intro x hx; cases List.mem_singleton.mp hx; exact Or.inr (Nat.le_of_eq g_3.symm)), m _ s_7, Ad2⟩)
def bStr2 : Road.Bdy := (⟨"java/lang/String", "<init>", "([CIILjava/lang/Void;)V"⟩, jdk_42_method_149_code, 6, none, { frames := 2, cells := 1, slots := 2, locals := 39 })
theorem bStr2_d0 : decode bStr2.bs 0 = .ok (.aload_n 0, 1) := by decide +kernel
theorem bStr2_d1 : decode bStr2.bs 1 = .ok (.invokespecial 1, 3) := by decide +kernel
theorem bStr2_d4 : decode bStr2.bs 4 = .ok (.iload_n 3, 1) := by decide +kernel
theorem bStr2_d5 : decode bStr2.bs 5 = .ok (.ifCond .ne 22, 3) := by decide +kernel
theorem bStr2_d8 : decode bStr2.bs 8 = .ok (.aload_n 0, 1) := by decide +kernel
theorem bStr2_d9 : decode bStr2.bs 9 = .ok (.ldc 7, 2) := by decide +kernel
theorem bStr2_d11 : decode bStr2.bs 11 = .ok (.getfield 9, 3) := by decide +kernel
theorem bStr2_d14 : decode bStr2.bs 14 = .ok (.putfield 9, 3) := by decide +kernel
theorem bStr2_d17 : decode bStr2.bs 17 = .ok (.aload_n 0, 1) := by decide +kernel
theorem bStr2_d18 : decode bStr2.bs 18 = .ok (.ldc 7, 2) := by decide +kernel
theorem bStr2_d20 : decode bStr2.bs 20 = .ok (.getfield 15, 3) := by decide +kernel
theorem bStr2_d23 : decode bStr2.bs 23 = .ok (.putfield 15, 3) := by decide +kernel
theorem bStr2_d26 : decode bStr2.bs 26 = .ok (.return_, 1) := by decide +kernel
theorem bStr2_d27 : decode bStr2.bs 27 = .ok (.getstatic 38, 3) := by decide +kernel
theorem bStr2_d30 : decode bStr2.bs 30 = .ok (.ifCond .eq 28, 3) := by decide +kernel
theorem bStr2_d33 : decode bStr2.bs 33 = .ok (.aload_n 1, 1) := by decide +kernel
theorem bStr2_d34 : decode bStr2.bs 34 = .ok (.iload_n 2, 1) := by decide +kernel
theorem bStr2_d35 : decode bStr2.bs 35 = .ok (.iload_n 3, 1) := by decide +kernel
theorem bStr2_d36 : decode bStr2.bs 36 = .ok (.invokestatic 177, 3) := by decide +kernel
theorem bStr2_d39 : decode bStr2.bs 39 = .ok (.astore 5, 2) := by decide +kernel
theorem bStr2_d41 : decode bStr2.bs 41 = .ok (.aload_n 0, 1) := by decide +kernel
theorem bStr2_d42 : decode bStr2.bs 42 = .ok (.aload 5, 2) := by decide +kernel
theorem bStr2_d44 : decode bStr2.bs 44 = .ok (.iload_n 3, 1) := by decide +kernel
theorem bStr2_d45 : decode bStr2.bs 45 = .ok (.invokestatic 47, 3) := by decide +kernel
theorem bStr2_d48 : decode bStr2.bs 48 = .ok (.putfield 15, 3) := by decide +kernel
theorem bStr2_d51 : decode bStr2.bs 51 = .ok (.aload_n 0, 1) := by decide +kernel
theorem bStr2_d52 : decode bStr2.bs 52 = .ok (.aload 5, 2) := by decide +kernel
theorem bStr2_d54 : decode bStr2.bs 54 = .ok (.putfield 9, 3) := by decide +kernel
theorem bStr2_d57 : decode bStr2.bs 57 = .ok (.return_, 1) := by decide +kernel
theorem bStr2_d58 : decode bStr2.bs 58 = .ok (.aload_n 0, 1) := by decide +kernel
theorem bStr2_d59 : decode bStr2.bs 59 = .ok (.iconst 1, 1) := by decide +kernel
theorem bStr2_d60 : decode bStr2.bs 60 = .ok (.putfield 15, 3) := by decide +kernel
theorem bStr2_d63 : decode bStr2.bs 63 = .ok (.aload_n 0, 1) := by decide +kernel
theorem bStr2_d64 : decode bStr2.bs 64 = .ok (.aload_n 1, 1) := by decide +kernel
theorem bStr2_d65 : decode bStr2.bs 65 = .ok (.iload_n 2, 1) := by decide +kernel
theorem bStr2_d66 : decode bStr2.bs 66 = .ok (.iload_n 3, 1) := by decide +kernel
theorem bStr2_d67 : decode bStr2.bs 67 = .ok (.invokestatic 180, 3) := by decide +kernel
theorem bStr2_d70 : decode bStr2.bs 70 = .ok (.putfield 9, 3) := by decide +kernel
theorem bStr2_d73 : decode bStr2.bs 73 = .ok (.return_, 1) := by decide +kernel
theorem bStr2_pd : parseMethodDescriptor "([CIILjava/lang/Void;)V" = some ⟨[(.array .char), .int, .int, (.object "java/lang/Void")], none⟩ := by decide +kernel
theorem bStr2_pn : plainFor bStr2.y = true := plainFor_of_name (show plainName "java/lang/String" = true from by first | (simp [plainName, overriddenIn]; done) | decide +kernel)
theorem cStr2 (l : Launch) (Z : State) (a0 : Array Value) (hw : ∀ d ∈ tables_1, d.before a0 Z = true) (n0 : Nat) (hEW : EW Z a0 consts_1) (a b : Addr) (cs : List Int32) (h0 : Heap) (σ : Addr → Prop) (E : Exa Z h0 a Road.SN) (Fc : Fld Z h0 a Road.SN "coder" "B" (.int 0)) (Fv : Fld Z h0 a Road.SN "value" "[B" .null) (A : Road.Ary Z h0 b .char (cs.map .int)) (hcap : cs.length ≤ 2) (hlat : ∀ c ∈ cs, 0 ≤ c.toInt ∧ c.toInt < 256) (sa : σ a) (cp : Int32) (Hc : Sta Z Z.heap Road.SN "COMPACT_STRINGS" "Z" (.int cp)) (hcp : ¬ cp = 0) (hne0 : cs ≠ []) :
    Road.Con l Z consts_1 n0 false bStr2 [] σ #[(.ref a), (.ref b), (.int (0 : Int32)), (.int (Nat.toInt32 cs.length)), .null] h0 (fun v h2 s2 => v = none ∧ Keep h0 h2 [a] ∧ ∃ d, Road.Str Z h2 a d cs ∧ ∀ x, σ x → x ≠ d) := by
  have nab : a ≠ b := by obtain ⟨c, Ar, -⟩ := A; exact ne_arr E (hw _ (List.mem_of_getElem? (i := 71) rfl)) Ar
  refine Road.Con.of bStr2_pn hEW #[.val (.ref a), .val (.ref b), .val (.int (0 : Int32)), .val (.int (Nat.toInt32 cs.length)), .val .null, .unset] (fun m => Road.ent (Road.laid1 rfl (Road.laid1 rfl (Road.laid1 rfl (Road.laid1 rfl (Road.laid1 rfl Road.laid0))))) (k := 1) rfl rfl) ?_
  intro D hD
  refine Road.Go.ownAll ?_
  intro hall
  refine Road.aloadN 0 bStr2_d0 rfl ?_
  refine Road.initObj 1 bStr2_d1 (hw _ (List.mem_of_getElem? (i := 79) rfl)) (hw _ (List.mem_of_getElem? (i := 23) rfl)) (hw _ (List.mem_of_getElem? (i := 24) rfl)) 0 rfl rfl (by decide) (by decide) ?_
  refine Road.iloadN 4 bStr2_d4 rfl ?_
  refine Road.if_ne 5 27 bStr2_d5 rfl (fun hc5 => ?_) (fun hc5 => ?_)
  · skip
    refine Road.getstatic 27 bStr2_d27 (hw _ (List.mem_of_getElem? (i := 134) rfl)) Via.refl Hc ?_
    refine Road.if_eq 30 58 bStr2_d30 rfl (fun q => absurd q hcp) (fun hc30 => ?_)
    refine Road.aloadN 33 bStr2_d33 rfl ?_
    refine Road.iloadN 34 bStr2_d34 rfl ?_
    refine Road.iloadN 35 bStr2_d35 rfl ?_
    refine Road.callS (B' := bCmp4) 36 (argsL := [(.ref b), (.int (0 : Int32)), (.int (Nat.toInt32 cs.length))]) (rest := []) 0 bStr2_d36 (hw _ (List.mem_of_getElem? (i := 289) rfl)) (hw _ (List.mem_of_getElem? (i := 290) rfl)) (hw _ (List.mem_of_getElem? (i := 291) rfl)) (hw _ (List.mem_of_getElem? (i := 292) rfl)) (by decide) (cCmp4 l Z a0 hw n0 hEW b cs h0 σ A hcap hlat) (lenOf bCmp4_pd rfl) rfl rfl rfl (by decide) (by decide) (ce' := 1) (sl' := 2) rfl rfl (by decide) (by decide) ?_
    rintro _ h_1 σ_2 m_3 ⟨d, rfl, gd, K_4, sd, Ad⟩
    have ne_a_d : a ≠ d := Nat.ne_of_lt (Nat.lt_of_lt_of_le E.lt gd)
    have ne_b_d : b ≠ d := Nat.ne_of_lt (Nat.lt_of_lt_of_le A.lt gd)
    replace E := E.keep K_4
    replace Fc := Fc.keep K_4 nin0
    replace Fv := Fv.keep K_4 nin0
    replace A := A.keep K_4 nin0
    replace sa := m_3 _ sa
    refine Road.astore 39 #[.val (.ref a), .val (.ref b), .val (.int (0 : Int32)), .val (.int (Nat.toInt32 cs.length)), .val .null, .val (.ref d)] bStr2_d39 rfl ?_
    refine Road.aloadN 41 bStr2_d41 rfl ?_
    refine Road.aload 42 bStr2_d42 rfl ?_
    refine Road.iloadN 44 bStr2_d44 rfl ?_
    have hlm : (cs.map Road.byt).length = cs.length := List.length_map _
    refine Road.callS (B' := bCfa) 45 (argsL := [(.ref d), (.int (Nat.toInt32 cs.length))]) (rest := [(.ref a)]) 1 bStr2_d45 (hw _ (List.mem_of_getElem? (i := 296) rfl)) (hw _ (List.mem_of_getElem? (i := 297) rfl)) (hw _ (List.mem_of_getElem? (i := 291) rfl)) (hw _ (List.mem_of_getElem? (i := 298) rfl)) (by decide) (by rw [← List.length_map (f := Road.byt) (as := cs)]; exact cCfa l Z a0 hw n0 hEW d (cs.map Road.byt) h_1 σ_2 Ad) (lenOf bCfa_pd rfl) rfl rfl rfl (by decide) (by decide) (ce' := 1) (sl' := 2) rfl rfl (by decide) (by decide) ?_
    rintro _ h_6 σ_7 m_8 ⟨rfl, rfl⟩
    refine Road.Go.weaken (σ' := σ_2) m_8 (Nat.le_refl _) (Nat.le_refl _) ?_
    refine Road.putfield 48 bStr2_d48 (hw _ (List.mem_of_getElem? (i := 101) rfl)) Via.refl Fc E (Or.inr ⟨(hw _ (List.mem_of_getElem? (i := 102) rfl)), rfl, rfl⟩) (hw _ (List.mem_of_getElem? (i := 71) rfl)) (ty := .byte) (by decide) rfl rfl sa ?_
    intro h_12 W_10 K_11
    replace Fc := Fc.same W_10
    replace Fv := Fv.other W_10 (Or.inr (slot_ne (Or.inr (hw _ (List.mem_of_getElem? (i := 122) rfl))) (Or.inr (hw _ (List.mem_of_getElem? (i := 102) rfl))) (by decide) (t := (.array .byte)) (by decide) (t' := .byte) (by decide)))
    replace E := E.keep K_11
    replace A := A.keep K_11 (ninS (Ne.symm nab) nin0)
    replace Ad := Ad.keep K_11 (ninS (Ne.symm ne_a_d) nin0)
    refine Road.aloadN 51 bStr2_d51 rfl ?_
    refine Road.aload 52 bStr2_d52 rfl ?_
    refine Road.putfield 54 bStr2_d54 (hw _ (List.mem_of_getElem? (i := 121) rfl)) Via.refl Fv E (Or.inr ⟨(hw _ (List.mem_of_getElem? (i := 122) rfl)), rfl, rfl⟩) (hw _ (List.mem_of_getElem? (i := 71) rfl)) (ty := (.array .byte)) (by decide) rfl rfl sa ?_
    intro h_15 W_13 K_14
    replace Fv := Fv.same W_13
    replace Fc := Fc.other W_13 (Or.inr (slot_ne (Or.inr (hw _ (List.mem_of_getElem? (i := 102) rfl))) (Or.inr (hw _ (List.mem_of_getElem? (i := 122) rfl))) (by decide) (t := .byte) (by decide) (t' := (.array .byte)) (by decide)))
    replace E := E.keep K_14
    replace A := A.keep K_14 (ninS (Ne.symm nab) nin0)
    replace Ad := Ad.keep K_14 (ninS (Ne.symm ne_a_d) nin0)
    exact Road.ret 57 bStr2_d57 rfl (by decide) (by decide) (fun σ' m => ⟨rfl, ((Road.keep_more K_4).trans K_11 (by simp)).trans K_14 (by simp), d, ⟨E, Fc, Fv, Ad, hlat⟩, fun x hx => Nat.ne_of_lt (Nat.lt_of_lt_of_le (hall x hx).2 gd)⟩)
  · skip
    exact absurd (List.eq_nil_of_length_eq_zero (by have := (Road.eq32 (i := cs.length) (j := 0) (by omega) (by omega)).mp hc5; exact this)) hne0
def bStr1 : Road.Bdy := (⟨"java/lang/String", "<init>", "([C)V"⟩, jdk_42_method_3_code, 2, none, { frames := 3, cells := 1, slots := 2, locals := 56 })
theorem bStr1_d0 : decode bStr1.bs 0 = .ok (.aload_n 0, 1) := by decide +kernel
theorem bStr1_d1 : decode bStr1.bs 1 = .ok (.aload_n 1, 1) := by decide +kernel
theorem bStr1_d2 : decode bStr1.bs 2 = .ok (.iconst 0, 1) := by decide +kernel
theorem bStr1_d3 : decode bStr1.bs 3 = .ok (.aload_n 1, 1) := by decide +kernel
theorem bStr1_d4 : decode bStr1.bs 4 = .ok (.arraylength, 1) := by decide +kernel
theorem bStr1_d5 : decode bStr1.bs 5 = .ok (.aconst_null, 1) := by decide +kernel
theorem bStr1_d6 : decode bStr1.bs 6 = .ok (.invokespecial 27, 3) := by decide +kernel
theorem bStr1_d9 : decode bStr1.bs 9 = .ok (.return_, 1) := by decide +kernel
theorem bStr1_pd : parseMethodDescriptor "([C)V" = some ⟨[(.array .char)], none⟩ := by decide +kernel
theorem bStr1_pn : plainFor bStr1.y = true := plainFor_of_name (show plainName "java/lang/String" = true from by first | (simp [plainName, overriddenIn]; done) | decide +kernel)
theorem cStr1 (l : Launch) (Z : State) (a0 : Array Value) (hw : ∀ d ∈ tables_1, d.before a0 Z = true) (n0 : Nat) (hEW : EW Z a0 consts_1) (a b : Addr) (cs : List Int32) (h0 : Heap) (σ : Addr → Prop) (E : Exa Z h0 a Road.SN) (Fc : Fld Z h0 a Road.SN "coder" "B" (.int 0)) (Fv : Fld Z h0 a Road.SN "value" "[B" .null) (A : Road.Ary Z h0 b .char (cs.map .int)) (hcap : cs.length ≤ 2) (hlat : ∀ c ∈ cs, 0 ≤ c.toInt ∧ c.toInt < 256) (sa : σ a) (cp : Int32) (Hc : Sta Z Z.heap Road.SN "COMPACT_STRINGS" "Z" (.int cp)) (hcp : ¬ cp = 0) (hne0 : cs ≠ []) :
    Road.Con l Z consts_1 n0 false bStr1 [] σ #[(.ref a), (.ref b)] h0 (fun v h2 s2 => v = none ∧ Keep h0 h2 [a] ∧ ∃ d, Road.Str Z h2 a d cs ∧ ∀ x, σ x → x ≠ d) := by
  refine Road.Con.of bStr1_pn hEW #[.val (.ref a), .val (.ref b)] (fun m => Road.ent (Road.laid1 rfl (Road.laid1 rfl Road.laid0)) (k := 0) rfl rfl) ?_
  intro D hD
  refine Road.aloadN 0 bStr1_d0 rfl ?_
  refine Road.aloadN 1 bStr1_d1 rfl ?_
  refine Road.iconst 2 (0 : Int32) bStr1_d2 rfl ?_
  refine Road.aloadN 3 bStr1_d3 rfl ?_
  refine Road.alen 4 (Nat.toInt32 cs.length) bStr1_d4 A (n := cs.length) (List.length_map _) rfl ?_
  refine Road.aconstNull 5 bStr1_d5 ?_
  refine Road.callI (B' := bStr2) (a := a) 6 (argsL := [(.ref b), (.int (0 : Int32)), (.int (Nat.toInt32 cs.length)), .null]) (rest := []) 0 bStr1_d6 (hw _ (List.mem_of_getElem? (i := 286) rfl)) (hw _ (List.mem_of_getElem? (i := 287) rfl)) (hw _ (List.mem_of_getElem? (i := 48) rfl)) (hw _ (List.mem_of_getElem? (i := 288) rfl)) rfl rfl (by decide) (cStr2 l Z a0 hw n0 hEW a b cs h0 σ E Fc Fv A hcap hlat sa cp Hc hcp hne0) (lenOf bStr2_pd rfl) rfl rfl rfl (by decide) (by decide) (ce' := 1) (sl' := 2) rfl rfl (by decide) (by decide) ?_
  rintro _ h_1 σ_2 m_3 ⟨rfl, K_4, d, S, hd⟩
  exact Road.ret 9 bStr1_d9 rfl (by decide) (by decide) (fun σ' m => ⟨rfl, K_4, d, S, hd⟩)
def bCan : Road.Bdy := (⟨"java/lang/StringLatin1", "canEncode", "(C)Z"⟩, jdk_43_method_3_code, 1, (some .boolean), { frames := 0, cells := 0, slots := 0, locals := 0 })
theorem bCan_d0 : decode bCan.bs 0 = .ok (.iload_n 0, 1) := by decide +kernel
theorem bCan_d1 : decode bCan.bs 1 = .ok (.sipush 255, 3) := by decide +kernel
theorem bCan_d4 : decode bCan.bs 4 = .ok (.if_icmp .gt 7, 3) := by decide +kernel
theorem bCan_d7 : decode bCan.bs 7 = .ok (.iconst 1, 1) := by decide +kernel
theorem bCan_d8 : decode bCan.bs 8 = .ok (.goto 4, 3) := by decide +kernel
theorem bCan_d11 : decode bCan.bs 11 = .ok (.iconst 0, 1) := by decide +kernel
theorem bCan_d12 : decode bCan.bs 12 = .ok (.ireturn, 1) := by decide +kernel
theorem bCan_pd : parseMethodDescriptor "(C)Z" = some ⟨[.char], (some .boolean)⟩ := by decide +kernel
theorem bCan_pn : plainFor bCan.y = true := plainFor_of_name (show plainName "java/lang/StringLatin1" = true from by first | (simp [plainName, overriddenIn]; done) | decide +kernel)
theorem cCan (l : Launch) (Z : State) (a0 : Array Value) (hw : ∀ d ∈ tables_1, d.before a0 Z = true) (n0 : Nat) (hEW : EW Z a0 consts_1) (c : Int32) (h0 : Heap) (σ : Addr → Prop) (hc : 0 ≤ c.toInt ∧ c.toInt < 256) :
    Road.Con l Z consts_1 n0 false bCan [] σ #[(.int c)] h0 (fun v h2 _ => v = some (.int 1) ∧ h0 = h2) := by
  refine Road.Con.of bCan_pn hEW #[.val (.int c)] (fun m => Road.ent (Road.laid1 rfl Road.laid0) (k := 0) rfl rfl) ?_
  intro D hD
  refine Road.iloadN 0 bCan_d0 rfl ?_
  refine Road.sipush 1 (255 : Int32) bCan_d1 rfl ?_
  refine Road.icmp_gt 4 11 bCan_d4 rfl (fun q => absurd q (by rw [Int32.lt_iff_toInt_lt]; have : (255 : Int32).toInt = 255 := rfl; omega)) (fun hc4 => ?_)
  refine Road.iconst 7 (1 : Int32) bCan_d7 rfl ?_
  refine Road.goto 8 12 bCan_d8 rfl ?_
  exact Road.iret 12 1 bCan_d12 (t := .boolean) rfl (by simp) rfl (by decide) (by decide) (fun σ' m => ⟨rfl, rfl⟩)
def bToB : Road.Bdy := (⟨"java/lang/StringLatin1", "toBytes", "(C)[B"⟩, jdk_43_method_46_code, 1, (some (.array .byte)), { frames := 0, cells := 1, slots := 1, locals := 0 })
theorem bToB_d0 : decode bToB.bs 0 = .ok (.iconst 1, 1) := by decide +kernel
theorem bToB_d1 : decode bToB.bs 1 = .ok (.newarray .byte, 2) := by decide +kernel
theorem bToB_d3 : decode bToB.bs 3 = .ok (.dup, 1) := by decide +kernel
theorem bToB_d4 : decode bToB.bs 4 = .ok (.iconst 0, 1) := by decide +kernel
theorem bToB_d5 : decode bToB.bs 5 = .ok (.iload_n 0, 1) := by decide +kernel
theorem bToB_d6 : decode bToB.bs 6 = .ok (.i2b, 1) := by decide +kernel
theorem bToB_d7 : decode bToB.bs 7 = .ok (.bastore, 1) := by decide +kernel
theorem bToB_d8 : decode bToB.bs 8 = .ok (.areturn, 1) := by decide +kernel
theorem bToB_pd : parseMethodDescriptor "(C)[B" = some ⟨[.char], (some (.array .byte))⟩ := by decide +kernel
theorem bToB_pn : plainFor bToB.y = true := plainFor_of_name (show plainName "java/lang/StringLatin1" = true from by first | (simp [plainName, overriddenIn]; done) | decide +kernel)
theorem cToB (l : Launch) (Z : State) (a0 : Array Value) (hw : ∀ d ∈ tables_1, d.before a0 Z = true) (n0 : Nat) (hEW : EW Z a0 consts_1) (c : Int32) (h0 : Heap) (σ : Addr → Prop)  :
    Road.Con l Z consts_1 n0 false bToB [] σ #[(.int c)] h0 (fun v h2 s2 => ∃ d, v = some (.ref d) ∧ h0.size ≤ d ∧ Keep h0 h2 [] ∧ s2 d ∧ Road.Ary Z h2 d .byte ([c].map Road.byt)) := by
  refine Road.Con.of bToB_pn hEW #[.val (.int c)] (fun m => Road.ent (Road.laid1 rfl Road.laid0) (k := 0) rfl rfl) ?_
  intro D hD
  refine Road.iconst 0 (1 : Int32) bToB_d0 rfl ?_
  refine Road.newarray 1 .byte 1 1 bToB_d1 rfl (hw _ (List.mem_of_getElem? (i := 49) rfl)) (by decide) (by decide) (by decide) (ce' := 1) (sl' := 1) rfl rfl (by decide) (by decide) ?_
  intro d h_1 σ_2 g_3 K_4 lt_5 m_6 s_7 Ad
  refine Road.dup 3 bToB_d3 ?_
  refine Road.iconst 4 (0 : Int32) bToB_d4 rfl ?_
  refine Road.iloadN 5 bToB_d5 rfl ?_
  refine Road.i2b 6 bToB_d6 ?_
  refine Road.bastore 7 0 (Int8.toInt32 (Int32.toInt8 c)) bToB_d7 Ad (by decide) (by simp) (Road.nar_byte _) s_7 ?_
  intro h_8 K_9 A_10
  replace Ad := A_10
  exact Road.aret 8 bToB_d8 (t := (.array .byte)) rfl rfl rfl (by decide) (by decide) (fun σ' m => ⟨d, rfl, Nat.le_of_eq g_3.symm, K_4.trans K_9 (by intro x hx; cases List.mem_singleton.mp hx; exact Or.inr (Nat.le_of_eq g_3.symm)), m _ s_7, Ad⟩)
def bStB : Road.Bdy := (⟨"java/lang/String", "<init>", "([BB)V"⟩, jdk_42_method_151_code, 3, none, { frames := 1, cells := 0, slots := 0, locals := 13 })
theorem bStB_d0 : decode bStB.bs 0 = .ok (.aload_n 0, 1) := by decide +kernel
theorem bStB_d1 : decode bStB.bs 1 = .ok (.invokespecial 1, 3) := by decide +kernel
theorem bStB_d4 : decode bStB.bs 4 = .ok (.aload_n 0, 1) := by decide +kernel
theorem bStB_d5 : decode bStB.bs 5 = .ok (.aload_n 1, 1) := by decide +kernel
theorem bStB_d6 : decode bStB.bs 6 = .ok (.putfield 9, 3) := by decide +kernel
theorem bStB_d9 : decode bStB.bs 9 = .ok (.aload_n 0, 1) := by decide +kernel
theorem bStB_d10 : decode bStB.bs 10 = .ok (.iload_n 2, 1) := by decide +kernel
theorem bStB_d11 : decode bStB.bs 11 = .ok (.putfield 15, 3) := by decide +kernel
theorem bStB_d14 : decode bStB.bs 14 = .ok (.return_, 1) := by decide +kernel
theorem bStB_pd : parseMethodDescriptor "([BB)V" = some ⟨[(.array .byte), .byte], none⟩ := by decide +kernel
theorem bStB_pn : plainFor bStB.y = true := plainFor_of_name (show plainName "java/lang/String" = true from by first | (simp [plainName, overriddenIn]; done) | decide +kernel)
theorem cStB (l : Launch) (Z : State) (a0 : Array Value) (hw : ∀ d ∈ tables_1, d.before a0 Z = true) (n0 : Nat) (hEW : EW Z a0 consts_1) (a d : Addr) (cs : List Int32) (h0 : Heap) (σ : Addr → Prop) (E : Exa Z h0 a Road.SN) (Fc : Fld Z h0 a Road.SN "coder" "B" (.int 0)) (Fv : Fld Z h0 a Road.SN "value" "[B" .null) (Ad : Road.Ary Z h0 d .byte (cs.map Road.byt)) (hlat : ∀ c ∈ cs, 0 ≤ c.toInt ∧ c.toInt < 256) (sa : σ a) :
    Road.Con l Z consts_1 n0 false bStB [] σ #[(.ref a), (.ref d), (.int (0 : Int32))] h0 (fun v h2 s2 => v = none ∧ Keep h0 h2 [a] ∧ Road.Str Z h2 a d cs) := by
  have nad : a ≠ d := by obtain ⟨c, Ar, -⟩ := Ad; exact ne_arr E (hw _ (List.mem_of_getElem? (i := 71) rfl)) Ar
  refine Road.Con.of bStB_pn hEW #[.val (.ref a), .val (.ref d), .val (.int (0 : Int32))] (fun m => Road.ent (Road.laid1 rfl (Road.laid1 rfl (Road.laid1 rfl Road.laid0))) (k := 0) rfl rfl) ?_
  intro D hD
  refine Road.aloadN 0 bStB_d0 rfl ?_
  refine Road.initObj 1 bStB_d1 (hw _ (List.mem_of_getElem? (i := 79) rfl)) (hw _ (List.mem_of_getElem? (i := 23) rfl)) (hw _ (List.mem_of_getElem? (i := 24) rfl)) 0 rfl rfl (by decide) (by decide) ?_
  refine Road.aloadN 4 bStB_d4 rfl ?_
  refine Road.aloadN 5 bStB_d5 rfl ?_
  refine Road.putfield 6 bStB_d6 (hw _ (List.mem_of_getElem? (i := 121) rfl)) Via.refl Fv E (Or.inr ⟨(hw _ (List.mem_of_getElem? (i := 122) rfl)), rfl, rfl⟩) (hw _ (List.mem_of_getElem? (i := 71) rfl)) (ty := (.array .byte)) (by decide) rfl rfl sa ?_
  intro h_3 W_1 K_2
  replace Fv := Fv.same W_1
  replace Fc := Fc.other W_1 (Or.inr (slot_ne (Or.inr (hw _ (List.mem_of_getElem? (i := 102) rfl))) (Or.inr (hw _ (List.mem_of_getElem? (i := 122) rfl))) (by decide) (t := .byte) (by decide) (t' := (.array .byte)) (by decide)))
  replace E := E.keep K_2
  replace Ad := Ad.keep K_2 (ninS (Ne.symm nad) nin0)
  refine Road.aloadN 9 bStB_d9 rfl ?_
  refine Road.iloadN 10 bStB_d10 rfl ?_
  refine Road.putfield 11 bStB_d11 (hw _ (List.mem_of_getElem? (i := 101) rfl)) Via.refl Fc E (Or.inr ⟨(hw _ (List.mem_of_getElem? (i := 102) rfl)), rfl, rfl⟩) (hw _ (List.mem_of_getElem? (i := 71) rfl)) (ty := .byte) (by decide) rfl rfl sa ?_
  intro h_6 W_4 K_5
  replace Fc := Fc.same W_4
  replace Fv := Fv.other W_4 (Or.inr (slot_ne (Or.inr (hw _ (List.mem_of_getElem? (i := 122) rfl))) (Or.inr (hw _ (List.mem_of_getElem? (i := 102) rfl))) (by decide) (t := (.array .byte)) (by decide) (t' := .byte) (by decide)))
  replace E := E.keep K_5
  replace Ad := Ad.keep K_5 (ninS (Ne.symm nad) nin0)
  exact Road.ret 14 bStB_d14 rfl (by decide) (by decide) (fun σ' m => ⟨rfl, K_2.trans K_5 (by simp), E, Fc, Fv, Ad, hlat⟩)
def bVal : Road.Bdy := (⟨"java/lang/String", "valueOf", "(C)Ljava/lang/String;"⟩, jdk_42_method_139_code, 1, (some (.object "java/lang/String")), { frames := 2, cells := 2, slots := 5, locals := 28 })
theorem bVal_d0 : decode bVal.bs 0 = .ok (.getstatic 38, 3) := by decide +kernel
theorem bVal_d3 : decode bVal.bs 3 = .ok (.ifCond .eq 23, 3) := by decide +kernel
theorem bVal_d6 : decode bVal.bs 6 = .ok (.iload_n 0, 1) := by decide +kernel
theorem bVal_d7 : decode bVal.bs 7 = .ok (.invokestatic 1015, 3) := by decide +kernel
theorem bVal_d10 : decode bVal.bs 10 = .ok (.ifCond .eq 16, 3) := by decide +kernel
theorem bVal_d13 : decode bVal.bs 13 = .ok (.new 10, 3) := by decide +kernel
theorem bVal_d16 : decode bVal.bs 16 = .ok (.dup, 1) := by decide +kernel
theorem bVal_d17 : decode bVal.bs 17 = .ok (.iload_n 0, 1) := by decide +kernel
theorem bVal_d18 : decode bVal.bs 18 = .ok (.invokestatic 1018, 3) := by decide +kernel
theorem bVal_d21 : decode bVal.bs 21 = .ok (.iconst 0, 1) := by decide +kernel
theorem bVal_d22 : decode bVal.bs 22 = .ok (.invokespecial 209, 3) := by decide +kernel
theorem bVal_d25 : decode bVal.bs 25 = .ok (.areturn, 1) := by decide +kernel
theorem bVal_d26 : decode bVal.bs 26 = .ok (.new 10, 3) := by decide +kernel
theorem bVal_d29 : decode bVal.bs 29 = .ok (.dup, 1) := by decide +kernel
theorem bVal_d30 : decode bVal.bs 30 = .ok (.iload_n 0, 1) := by decide +kernel
theorem bVal_d31 : decode bVal.bs 31 = .ok (.invokestatic 1021, 3) := by decide +kernel
theorem bVal_d34 : decode bVal.bs 34 = .ok (.iconst 1, 1) := by decide +kernel
theorem bVal_d35 : decode bVal.bs 35 = .ok (.invokespecial 209, 3) := by decide +kernel
theorem bVal_d38 : decode bVal.bs 38 = .ok (.areturn, 1) := by decide +kernel
theorem bVal_pd : parseMethodDescriptor "(C)Ljava/lang/String;" = some ⟨[.char], (some (.object "java/lang/String"))⟩ := by decide +kernel
theorem bVal_pn : plainFor bVal.y = true := plainFor_of_name (show plainName "java/lang/String" = true from by first | (simp [plainName, overriddenIn]; done) | decide +kernel)
theorem cVal (l : Launch) (Z : State) (a0 : Array Value) (hw : ∀ d ∈ tables_1, d.before a0 Z = true) (n0 : Nat) (hEW : EW Z a0 consts_1) (c : Int32) (h0 : Heap) (σ : Addr → Prop) (hc : 0 ≤ c.toInt ∧ c.toInt < 256) (cp : Int32) (Hc : Sta Z Z.heap Road.SN "COMPACT_STRINGS" "Z" (.int cp)) (hcp : ¬ cp = 0) :
    Road.Con l Z consts_1 n0 false bVal [] σ #[(.int c)] h0 (fun v h2 s2 => ∃ a d, v = some (.ref a) ∧ h0.size ≤ a ∧ h0.size ≤ d ∧ Keep h0 h2 [] ∧ Road.Str Z h2 a d [c]) := by
  refine Road.Con.of bVal_pn hEW #[.val (.int c)] (fun m => Road.ent (Road.laid1 rfl Road.laid0) (k := 0) rfl rfl) ?_
  intro D hD
  refine Road.getstatic 0 bVal_d0 (hw _ (List.mem_of_getElem? (i := 134) rfl)) Via.refl Hc ?_
  refine Road.if_eq 3 26 bVal_d3 rfl (fun q => absurd q hcp) (fun hc3 => ?_)
  refine Road.iloadN 6 bVal_d6 rfl ?_
  refine Road.callS (B' := bCan) 7 (argsL := [(.int c)]) (rest := []) 0 bVal_d7 (hw _ (List.mem_of_getElem? (i := 141) rfl)) (hw _ (List.mem_of_getElem? (i := 142) rfl)) (hw _ (List.mem_of_getElem? (i := 143) rfl)) (hw _ (List.mem_of_getElem? (i := 144) rfl)) (by decide) (cCan l Z a0 hw n0 hEW c h0 σ hc) (lenOf bCan_pd rfl) rfl rfl rfl (by decide) (by decide) (ce' := 0) (sl' := 0) rfl rfl (by decide) (by decide) ?_
  rintro _ h_1 σ_2 m_3 ⟨rfl, rfl⟩
  refine Road.Go.weaken (σ' := σ) m_3 (Nat.le_refl _) (Nat.le_refl _) ?_
  refine Road.if_eq 10 26 bVal_d10 rfl (fun q => absurd q (by decide)) (fun hc10 => ?_)
  refine Road.new 13 "java/lang/String" bVal_d13 (hw _ (List.mem_of_getElem? (i := 145) rfl)) (hw _ (List.mem_of_getElem? (i := 71) rfl)) (hw _ (List.mem_of_getElem? (i := 48) rfl)) (ce' := 1) (sl' := 4) rfl rfl (by decide) (by decide) ?_
  intro a h_5 σ_6 g_7 K_8 lt_9 m_10 s_11 E D_12 M_13
  have Fc := D_12 (Or.inr (hw _ (List.mem_of_getElem? (i := 102) rfl))) (ty := .byte) (by decide)
  have Fv := D_12 (Or.inr (hw _ (List.mem_of_getElem? (i := 122) rfl))) (ty := (.array .byte)) (by decide)
  refine Road.dup 16 bVal_d16 ?_
  refine Road.iloadN 17 bVal_d17 rfl ?_
  refine Road.callS (B' := bToB) 18 (argsL := [(.int c)]) (rest := [(.ref a), (.ref a)]) 2 bVal_d18 (hw _ (List.mem_of_getElem? (i := 146) rfl)) (hw _ (List.mem_of_getElem? (i := 147) rfl)) (hw _ (List.mem_of_getElem? (i := 143) rfl)) (hw _ (List.mem_of_getElem? (i := 148) rfl)) (by decide) (cToB l Z a0 hw n0 hEW c h_5 σ_6) (lenOf bToB_pd rfl) rfl rfl rfl (by decide) (by decide) (ce' := 2) (sl' := 5) rfl rfl (by decide) (by decide) ?_
  rintro _ h_14 σ_15 m_16 ⟨d, rfl, gd, K_17, sd, Ad⟩
  have ne_a_d : a ≠ d := Nat.ne_of_lt (Nat.lt_of_lt_of_le E.lt gd)
  replace E := E.keep K_17
  replace Fc := Fc.keep K_17 nin0
  replace Fv := Fv.keep K_17 nin0
  replace s_11 := m_16 _ s_11
  refine Road.iconst 21 (0 : Int32) bVal_d21 rfl ?_
  refine Road.callI (B' := bStB) (a := a) 22 (argsL := [(.ref d), (.int (0 : Int32))]) (rest := [(.ref a)]) 1 bVal_d22 (hw _ (List.mem_of_getElem? (i := 149) rfl)) (hw _ (List.mem_of_getElem? (i := 150) rfl)) (hw _ (List.mem_of_getElem? (i := 48) rfl)) (hw _ (List.mem_of_getElem? (i := 151) rfl)) rfl rfl (by decide) (cStB l Z a0 hw n0 hEW a d [c] h_14 σ_15 E Fc Fv Ad (by intro x hx; cases List.mem_singleton.mp hx; exact hc) s_11) (lenOf bStB_pd rfl) rfl rfl rfl (by decide) (by decide) (ce' := 2) (sl' := 5) rfl rfl (by decide) (by decide) ?_
  rintro _ h_19 σ_20 m_21 ⟨rfl, K_22, S⟩
  replace s_11 := m_21 _ s_11
  exact Road.aret 25 bVal_d25 (t := (.object "java/lang/String")) rfl rfl rfl (by decide) (by decide) (fun σ' m => ⟨a, d, rfl, Nat.le_of_eq g_7.symm, Nat.le_trans K_8.1 gd, (K_8.trans K_17 (by simp)).trans K_22 (by intro x hx; cases List.mem_singleton.mp hx; exact Or.inr (Nat.le_of_eq g_7.symm)), S⟩)
def bCod : Road.Bdy := (⟨"java/lang/String", "coder", "()B"⟩, jdk_42_method_152_code, 1, (some .byte), { frames := 0, cells := 0, slots := 0, locals := 0 })
theorem bCod_d0 : decode bCod.bs 0 = .ok (.getstatic 38, 3) := by decide +kernel
theorem bCod_d3 : decode bCod.bs 3 = .ok (.ifCond .eq 10, 3) := by decide +kernel
theorem bCod_d6 : decode bCod.bs 6 = .ok (.aload_n 0, 1) := by decide +kernel
theorem bCod_d7 : decode bCod.bs 7 = .ok (.getfield 15, 3) := by decide +kernel
theorem bCod_d10 : decode bCod.bs 10 = .ok (.goto 4, 3) := by decide +kernel
theorem bCod_d13 : decode bCod.bs 13 = .ok (.iconst 1, 1) := by decide +kernel
theorem bCod_d14 : decode bCod.bs 14 = .ok (.ireturn, 1) := by decide +kernel
theorem bCod_pd : parseMethodDescriptor "()B" = some ⟨[], (some .byte)⟩ := by decide +kernel
theorem bCod_pn : plainFor bCod.y = true := plainFor_of_name (show plainName "java/lang/String" = true from by first | (simp [plainName, overriddenIn]; done) | decide +kernel)
theorem cCod (l : Launch) (Z : State) (a0 : Array Value) (hw : ∀ d ∈ tables_1, d.before a0 Z = true) (n0 : Nat) (hEW : EW Z a0 consts_1) (a : Addr) (h0 : Heap) (σ : Addr → Prop) (Fc : Fld Z h0 a Road.SN "coder" "B" (.int 0)) (cp : Int32) (Hc : Sta Z Z.heap Road.SN "COMPACT_STRINGS" "Z" (.int cp)) (hcp : ¬ cp = 0) :
    Road.Con l Z consts_1 n0 false bCod [] σ #[(.ref a)] h0 (fun v h2 _ => v = some (.int 0) ∧ h0 = h2) := by
  refine Road.Con.of bCod_pn hEW #[.val (.ref a)] (fun m => Road.ent (Road.laid1 rfl Road.laid0) (k := 0) rfl rfl) ?_
  intro D hD
  refine Road.getstatic 0 bCod_d0 (hw _ (List.mem_of_getElem? (i := 134) rfl)) Via.refl Hc ?_
  refine Road.if_eq 3 13 bCod_d3 rfl (fun q => absurd q hcp) (fun hc3 => ?_)
  refine Road.aloadN 6 bCod_d6 rfl ?_
  refine Road.getfield 7 bCod_d7 (hw _ (List.mem_of_getElem? (i := 101) rfl)) Via.refl Fc ?_
  refine Road.goto 10 14 bCod_d10 rfl ?_
  exact Road.iret 14 0 bCod_d14 (t := .byte) rfl (by simp) rfl (by decide) (by decide) (fun σ' m => ⟨rfl, rfl⟩)
def bLen : Road.Bdy := (⟨"java/lang/String", "length", "()I"⟩, jdk_42_method_54_code, 1, (some .int), { frames := 1, cells := 0, slots := 0, locals := 13 })
theorem bLen_d0 : decode bLen.bs 0 = .ok (.aload_n 0, 1) := by decide +kernel
theorem bLen_d1 : decode bLen.bs 1 = .ok (.getfield 9, 3) := by decide +kernel
theorem bLen_d4 : decode bLen.bs 4 = .ok (.arraylength, 1) := by decide +kernel
theorem bLen_d5 : decode bLen.bs 5 = .ok (.aload_n 0, 1) := by decide +kernel
theorem bLen_d6 : decode bLen.bs 6 = .ok (.invokevirtual 335, 3) := by decide +kernel
theorem bLen_d9 : decode bLen.bs 9 = .ok (.ishr, 1) := by decide +kernel
theorem bLen_d10 : decode bLen.bs 10 = .ok (.ireturn, 1) := by decide +kernel
theorem bLen_pd : parseMethodDescriptor "()I" = some ⟨[], (some .int)⟩ := by decide +kernel
theorem bLen_pn : plainFor bLen.y = true := plainFor_of_name (show plainName "java/lang/String" = true from by first | (simp [plainName, overriddenIn]; done) | decide +kernel)
theorem cLen (l : Launch) (Z : State) (a0 : Array Value) (hw : ∀ d ∈ tables_1, d.before a0 Z = true) (n0 : Nat) (hEW : EW Z a0 consts_1) (a b : Addr) (cs : List Int32) (h0 : Heap) (σ : Addr → Prop) (S : Road.Str Z h0 a b cs) (cp : Int32) (Hc : Sta Z Z.heap Road.SN "COMPACT_STRINGS" "Z" (.int cp)) (hcp : ¬ cp = 0) :
    Road.Con l Z consts_1 n0 false bLen [] σ #[(.ref a)] h0 (fun v h2 _ => v = some (.int (Nat.toInt32 cs.length)) ∧ h0 = h2) := by
  refine Road.Con.of bLen_pn hEW #[.val (.ref a)] (fun m => Road.ent (Road.laid1 rfl Road.laid0) (k := 0) rfl rfl) ?_
  intro D hD
  refine Road.aloadN 0 bLen_d0 rfl ?_
  refine Road.getfield 1 bLen_d1 (hw _ (List.mem_of_getElem? (i := 121) rfl)) Via.refl S.2.2.1 ?_
  refine Road.alen 4 (Nat.toInt32 cs.length) bLen_d4 S.2.2.2.1 (n := cs.length) (List.length_map _) rfl ?_
  refine Road.aloadN 5 bLen_d5 rfl ?_
  refine Road.callV (B' := bCod) (a := a) 6 (argsL := []) (rest := [(.int (Nat.toInt32 cs.length))]) "java/lang/String" 1 bLen_d6 (hw _ (List.mem_of_getElem? (i := 129) rfl)) (hw _ (List.mem_of_getElem? (i := 130) rfl)) (fun vm hz => Road.notFace_sib (args := #[]) (mv (s := D.s.setVm vm) hz (hw _ (List.mem_of_getElem? (i := 127) rfl))) rfl) (hw _ (List.mem_of_getElem? (i := 132) rfl)) (hw _ (List.mem_of_getElem? (i := 131) rfl)) (hw _ (List.mem_of_getElem? (i := 48) rfl)) (hw _ (List.mem_of_getElem? (i := 133) rfl)) (by decide) S.1 (cCod l Z a0 hw n0 hEW a h0 σ S.2.1 cp Hc hcp) (lenOf bCod_pd rfl) rfl rfl rfl (by decide) (by decide) (ce' := 0) (sl' := 0) rfl rfl (by decide) (by decide) ?_
  rintro _ h_1 σ_2 m_3 ⟨rfl, rfl⟩
  refine Road.Go.weaken (σ' := σ) m_3 (Nat.le_refl _) (Nat.le_refl _) ?_
  refine Road.ishr 9 bLen_d9 ?_
  exact Road.iretI 10 bLen_d10 rfl (by decide) (by decide) (fun σ' m => ⟨by rw [Road.shr0], rfl⟩)
def bIsL : Road.Bdy := (⟨"java/lang/String", "isLatin1", "()Z"⟩, jdk_42_method_154_code, 1, (some .boolean), { frames := 0, cells := 0, slots := 0, locals := 0 })
theorem bIsL_d0 : decode bIsL.bs 0 = .ok (.getstatic 38, 3) := by decide +kernel
theorem bIsL_d3 : decode bIsL.bs 3 = .ok (.ifCond .eq 14, 3) := by decide +kernel
theorem bIsL_d6 : decode bIsL.bs 6 = .ok (.aload_n 0, 1) := by decide +kernel
theorem bIsL_d7 : decode bIsL.bs 7 = .ok (.getfield 15, 3) := by decide +kernel
theorem bIsL_d10 : decode bIsL.bs 10 = .ok (.ifCond .ne 7, 3) := by decide +kernel
theorem bIsL_d13 : decode bIsL.bs 13 = .ok (.iconst 1, 1) := by decide +kernel
theorem bIsL_d14 : decode bIsL.bs 14 = .ok (.goto 4, 3) := by decide +kernel
theorem bIsL_d17 : decode bIsL.bs 17 = .ok (.iconst 0, 1) := by decide +kernel
theorem bIsL_d18 : decode bIsL.bs 18 = .ok (.ireturn, 1) := by decide +kernel
theorem bIsL_pd : parseMethodDescriptor "()Z" = some ⟨[], (some .boolean)⟩ := by decide +kernel
theorem bIsL_pn : plainFor bIsL.y = true := plainFor_of_name (show plainName "java/lang/String" = true from by first | (simp [plainName, overriddenIn]; done) | decide +kernel)
theorem cIsL (l : Launch) (Z : State) (a0 : Array Value) (hw : ∀ d ∈ tables_1, d.before a0 Z = true) (n0 : Nat) (hEW : EW Z a0 consts_1) (a : Addr) (h0 : Heap) (σ : Addr → Prop) (Fc : Fld Z h0 a Road.SN "coder" "B" (.int 0)) (cp : Int32) (Hc : Sta Z Z.heap Road.SN "COMPACT_STRINGS" "Z" (.int cp)) (hcp : ¬ cp = 0) :
    Road.Con l Z consts_1 n0 false bIsL [] σ #[(.ref a)] h0 (fun v h2 _ => v = some (.int 1) ∧ h0 = h2) := by
  refine Road.Con.of bIsL_pn hEW #[.val (.ref a)] (fun m => Road.ent (Road.laid1 rfl Road.laid0) (k := 0) rfl rfl) ?_
  intro D hD
  refine Road.getstatic 0 bIsL_d0 (hw _ (List.mem_of_getElem? (i := 134) rfl)) Via.refl Hc ?_
  refine Road.if_eq 3 17 bIsL_d3 rfl (fun q => absurd q hcp) (fun hc3 => ?_)
  refine Road.aloadN 6 bIsL_d6 rfl ?_
  refine Road.getfield 7 bIsL_d7 (hw _ (List.mem_of_getElem? (i := 101) rfl)) Via.refl Fc ?_
  refine Road.if_ne 10 17 bIsL_d10 rfl (fun q => absurd q (by decide)) (fun hc10 => ?_)
  refine Road.iconst 13 (1 : Int32) bIsL_d13 rfl ?_
  refine Road.goto 14 18 bIsL_d14 rfl ?_
  exact Road.iret 18 1 bIsL_d18 (t := .boolean) rfl (by simp) rfl (by decide) (by decide) (fun σ' m => ⟨rfl, rfl⟩)
def bPre : Road.Bdy := (⟨"jdk/internal/util/Preconditions", "checkIndex", "(IILjava/util/function/BiFunction;)I"⟩, jdk_41_method_11_code, 3, (some .int), { frames := 0, cells := 0, slots := 0, locals := 0 })
theorem bPre_d0 : decode bPre.bs 0 = .ok (.iload_n 0, 1) := by decide +kernel
theorem bPre_d1 : decode bPre.bs 1 = .ok (.ifCond .lt 8, 3) := by decide +kernel
theorem bPre_d4 : decode bPre.bs 4 = .ok (.iload_n 0, 1) := by decide +kernel
theorem bPre_d5 : decode bPre.bs 5 = .ok (.iload_n 1, 1) := by decide +kernel
theorem bPre_d6 : decode bPre.bs 6 = .ok (.if_icmp .lt 10, 3) := by decide +kernel
theorem bPre_d9 : decode bPre.bs 9 = .ok (.aload_n 2, 1) := by decide +kernel
theorem bPre_d10 : decode bPre.bs 10 = .ok (.iload_n 0, 1) := by decide +kernel
theorem bPre_d11 : decode bPre.bs 11 = .ok (.iload_n 1, 1) := by decide +kernel
theorem bPre_d12 : decode bPre.bs 12 = .ok (.invokestatic 95, 3) := by decide +kernel
theorem bPre_d15 : decode bPre.bs 15 = .ok (.athrow, 1) := by decide +kernel
theorem bPre_d16 : decode bPre.bs 16 = .ok (.iload_n 0, 1) := by decide +kernel
theorem bPre_d17 : decode bPre.bs 17 = .ok (.ireturn, 1) := by decide +kernel
theorem bPre_pd : parseMethodDescriptor "(IILjava/util/function/BiFunction;)I" = some ⟨[.int, .int, (.object "java/util/function/BiFunction")], (some .int)⟩ := by decide +kernel
theorem bPre_pn : plainFor bPre.y = true := plainFor_of_name (show plainName "jdk/internal/util/Preconditions" = true from by first | (simp [plainName, overriddenIn]; done) | decide +kernel)
theorem cPre (l : Launch) (Z : State) (a0 : Array Value) (hw : ∀ d ∈ tables_1, d.before a0 Z = true) (n0 : Nat) (hEW : EW Z a0 consts_1) (j n : Int32) (fm : Value) (h0 : Heap) (σ : Addr → Prop) (hfm : fm.isRef = true) (hj : ¬ j < 0) (hjn : j < n) :
    Road.Con l Z consts_1 n0 false bPre [] σ #[(.int j), (.int n), fm] h0 (fun v h2 _ => v = some (.int j) ∧ h0 = h2) := by
  refine Road.Con.of bPre_pn hEW #[.val (.int j), .val (.int n), .val fm] (fun m => Road.ent (Road.laid1 rfl (Road.laid1 rfl (Road.laid1 (XT.cat1 hfm) Road.laid0))) (k := 0) rfl rfl) ?_
  intro D hD
  refine Road.iloadN 0 bPre_d0 rfl ?_
  refine Road.if_lt 1 9 bPre_d1 rfl (fun q => absurd q hj) (fun hc1 => ?_)
  refine Road.iloadN 4 bPre_d4 rfl ?_
  refine Road.iloadN 5 bPre_d5 rfl ?_
  refine Road.icmp_lt 6 16 bPre_d6 rfl (fun hc6 => ?_) (fun q => absurd q (by simpa using hjn))
  refine Road.iloadN 16 bPre_d16 rfl ?_
  exact Road.iretI 17 bPre_d17 rfl (by decide) (by decide) (fun σ' m => ⟨rfl, rfl⟩)
def bChk : Road.Bdy := (⟨"java/lang/String", "checkIndex", "(II)V"⟩, jdk_42_method_155_code, 2, none, { frames := 1, cells := 0, slots := 0, locals := 14 })
theorem bChk_d0 : decode bChk.bs 0 = .ok (.iload_n 0, 1) := by decide +kernel
theorem bChk_d1 : decode bChk.bs 1 = .ok (.iload_n 1, 1) := by decide +kernel
theorem bChk_d2 : decode bChk.bs 2 = .ok (.getstatic 1053, 3) := by decide +kernel
theorem bChk_d5 : decode bChk.bs 5 = .ok (.invokestatic 1059, 3) := by decide +kernel
theorem bChk_d8 : decode bChk.bs 8 = .ok (.pop, 1) := by decide +kernel
theorem bChk_d9 : decode bChk.bs 9 = .ok (.return_, 1) := by decide +kernel
theorem bChk_pd : parseMethodDescriptor "(II)V" = some ⟨[.int, .int], none⟩ := by decide +kernel
theorem bChk_pn : plainFor bChk.y = true := plainFor_of_name (show plainName "java/lang/String" = true from by first | (simp [plainName, overriddenIn]; done) | decide +kernel)
theorem cChk (l : Launch) (Z : State) (a0 : Array Value) (hw : ∀ d ∈ tables_1, d.before a0 Z = true) (n0 : Nat) (hEW : EW Z a0 consts_1) (j n : Int32) (h0 : Heap) (σ : Addr → Prop) (fm : Value) (hfm : fm.isRef = true) (Hf : Sta Z Z.heap "jdk/internal/util/Preconditions" "SIOOBE_FORMATTER" "Ljava/util/function/BiFunction;" fm) (hj : ¬ j < 0) (hjn : j < n) :
    Road.Con l Z consts_1 n0 false bChk [] σ #[(.int j), (.int n)] h0 (fun v h2 _ => v = none ∧ h0 = h2) := by
  refine Road.Con.of bChk_pn hEW #[.val (.int j), .val (.int n)] (fun m => Road.ent (Road.laid1 rfl (Road.laid1 rfl Road.laid0)) (k := 0) rfl rfl) ?_
  intro D hD
  refine Road.iloadN 0 bChk_d0 rfl ?_
  refine Road.iloadN 1 bChk_d1 rfl ?_
  refine Road.getstatic 2 bChk_d2 (hw _ (List.mem_of_getElem? (i := 279) rfl)) Via.refl Hf ?_
  refine Road.callS (B' := bPre) 5 (argsL := [(.int j), (.int n), fm]) (rest := []) 0 bChk_d5 (hw _ (List.mem_of_getElem? (i := 280) rfl)) (hw _ (List.mem_of_getElem? (i := 232) rfl)) (hw _ (List.mem_of_getElem? (i := 233) rfl)) (hw _ (List.mem_of_getElem? (i := 234) rfl)) (by decide) (cPre l Z a0 hw n0 hEW j n fm h0 σ hfm hj hjn) (lenOf bPre_pd rfl) rfl rfl rfl (by decide) (by decide) (ce' := 0) (sl' := 0) rfl rfl (by decide) (by decide) ?_
  rintro _ h_1 σ_2 m_3 ⟨rfl, rfl⟩
  refine Road.Go.weaken (σ' := σ) m_3 (Nat.le_refl _) (Nat.le_refl _) ?_
  refine Road.pop 8 bChk_d8 ?_
  exact Road.ret 9 bChk_d9 rfl (by decide) (by decide) (fun σ' m => ⟨rfl, rfl⟩)
def bLch : Road.Bdy := (⟨"java/lang/StringLatin1", "charAt", "([BI)C"⟩, jdk_43_method_2_code, 2, (some .char), { frames := 2, cells := 0, slots := 0, locals := 27 })
theorem bLch_d0 : decode bLch.bs 0 = .ok (.iload_n 1, 1) := by decide +kernel
theorem bLch_d1 : decode bLch.bs 1 = .ok (.aload_n 0, 1) := by decide +kernel
theorem bLch_d2 : decode bLch.bs 2 = .ok (.arraylength, 1) := by decide +kernel
theorem bLch_d3 : decode bLch.bs 3 = .ok (.invokestatic 9, 3) := by decide +kernel
theorem bLch_d6 : decode bLch.bs 6 = .ok (.aload_n 0, 1) := by decide +kernel
theorem bLch_d7 : decode bLch.bs 7 = .ok (.iload_n 1, 1) := by decide +kernel
theorem bLch_d8 : decode bLch.bs 8 = .ok (.baload, 1) := by decide +kernel
theorem bLch_d9 : decode bLch.bs 9 = .ok (.sipush 255, 3) := by decide +kernel
theorem bLch_d12 : decode bLch.bs 12 = .ok (.iand, 1) := by decide +kernel
theorem bLch_d13 : decode bLch.bs 13 = .ok (.i2c, 1) := by decide +kernel
theorem bLch_d14 : decode bLch.bs 14 = .ok (.ireturn, 1) := by decide +kernel
theorem bLch_pd : parseMethodDescriptor "([BI)C" = some ⟨[(.array .byte), .int], (some .char)⟩ := by decide +kernel
theorem bLch_pn : plainFor bLch.y = true := plainFor_of_name (show plainName "java/lang/StringLatin1" = true from by first | (simp [plainName, overriddenIn]; done) | decide +kernel)
theorem cLch (l : Launch) (Z : State) (a0 : Array Value) (hw : ∀ d ∈ tables_1, d.before a0 Z = true) (n0 : Nat) (hEW : EW Z a0 consts_1) (b : Addr) (cs : List Int32) (j : Int32) (i : Nat) (h0 : Heap) (σ : Addr → Prop) (A : Road.Ary Z h0 b .byte (cs.map Road.byt)) (hlat : ∀ c ∈ cs, 0 ≤ c.toInt ∧ c.toInt < 256) (hj : j.toInt = (i : Int)) (hi : i < cs.length) (fm : Value) (hfm : fm.isRef = true) (Hf : Sta Z Z.heap "jdk/internal/util/Preconditions" "SIOOBE_FORMATTER" "Ljava/util/function/BiFunction;" fm) :
    Road.Con l Z consts_1 n0 false bLch [] σ #[(.ref b), (.int j)] h0 (fun v h2 _ => v = some (.int cs[i]) ∧ h0 = h2) := by
  refine Road.Con.of bLch_pn hEW #[.val (.ref b), .val (.int j)] (fun m => Road.ent (Road.laid1 rfl (Road.laid1 rfl Road.laid0)) (k := 0) rfl rfl) ?_
  intro D hD
  have hn : cs.length < 2147483648 := by have := A.small; rwa [List.length_map] at this
  have hjn : j < Nat.toInt32 cs.length := by rw [Int32.lt_iff_toInt_lt, Road.n32 hn, hj]; omega
  refine Road.iloadN 0 bLch_d0 rfl ?_
  refine Road.aloadN 1 bLch_d1 rfl ?_
  refine Road.alen 2 (Nat.toInt32 cs.length) bLch_d2 A (n := cs.length) (List.length_map _) rfl ?_
  refine Road.callS (B' := bChk) 3 (argsL := [(.int j), (.int (Nat.toInt32 cs.length))]) (rest := []) 0 bLch_d3 (hw _ (List.mem_of_getElem? (i := 276) rfl)) (hw _ (List.mem_of_getElem? (i := 277) rfl)) (hw _ (List.mem_of_getElem? (i := 48) rfl)) (hw _ (List.mem_of_getElem? (i := 278) rfl)) (by decide) (cChk l Z a0 hw n0 hEW j (Nat.toInt32 cs.length) h0 σ fm hfm Hf (Road.ix_of hj).1 hjn) (lenOf bChk_pd rfl) rfl rfl rfl (by decide) (by decide) (ce' := 0) (sl' := 0) rfl rfl (by decide) (by decide) ?_
  rintro _ h_1 σ_2 m_3 ⟨rfl, rfl⟩
  refine Road.Go.weaken (σ' := σ) m_3 (Nat.le_refl _) (Nat.le_refl _) ?_
  refine Road.aloadN 6 bLch_d6 rfl ?_
  refine Road.iloadN 7 bLch_d7 rfl ?_
  refine Road.baload 8 i bLch_d8 A hj (by rw [List.getElem?_map, List.getElem?_eq_getElem hi]; rfl) ?_
  refine Road.sipush 9 (255 : Int32) bLch_d9 rfl ?_
  refine Road.iand 12 bLch_d12 ?_
  refine Road.i2c 13 bLch_d13 ?_
  exact Road.iret 14 cs[i] bLch_d14 (t := .char) rfl (by simp) (Road.byte_back (hlat _ (List.getElem_mem hi))) (by decide) (by decide) (fun σ' m => ⟨rfl, rfl⟩)
def bChA : Road.Bdy := (⟨"java/lang/String", "charAt", "(I)C"⟩, jdk_42_method_56_code, 2, (some .char), { frames := 3, cells := 0, slots := 0, locals := 40 })
theorem bChA_d0 : decode bChA.bs 0 = .ok (.aload_n 0, 1) := by decide +kernel
theorem bChA_d1 : decode bChA.bs 1 = .ok (.invokevirtual 492, 3) := by decide +kernel
theorem bChA_d4 : decode bChA.bs 4 = .ok (.ifCond .eq 12, 3) := by decide +kernel
theorem bChA_d7 : decode bChA.bs 7 = .ok (.aload_n 0, 1) := by decide +kernel
theorem bChA_d8 : decode bChA.bs 8 = .ok (.getfield 9, 3) := by decide +kernel
theorem bChA_d11 : decode bChA.bs 11 = .ok (.iload_n 1, 1) := by decide +kernel
theorem bChA_d12 : decode bChA.bs 12 = .ok (.invokestatic 495, 3) := by decide +kernel
theorem bChA_d15 : decode bChA.bs 15 = .ok (.ireturn, 1) := by decide +kernel
theorem bChA_d16 : decode bChA.bs 16 = .ok (.aload_n 0, 1) := by decide +kernel
theorem bChA_d17 : decode bChA.bs 17 = .ok (.getfield 9, 3) := by decide +kernel
theorem bChA_d20 : decode bChA.bs 20 = .ok (.iload_n 1, 1) := by decide +kernel
theorem bChA_d21 : decode bChA.bs 21 = .ok (.invokestatic 498, 3) := by decide +kernel
theorem bChA_d24 : decode bChA.bs 24 = .ok (.ireturn, 1) := by decide +kernel
theorem bChA_pd : parseMethodDescriptor "(I)C" = some ⟨[.int], (some .char)⟩ := by decide +kernel
theorem bChA_pn : plainFor bChA.y = true := plainFor_of_name (show plainName "java/lang/String" = true from by first | (simp [plainName, overriddenIn]; done) | decide +kernel)
theorem cChA (l : Launch) (Z : State) (a0 : Array Value) (hw : ∀ d ∈ tables_1, d.before a0 Z = true) (n0 : Nat) (hEW : EW Z a0 consts_1) (a b : Addr) (cs : List Int32) (j : Int32) (i : Nat) (h0 : Heap) (σ : Addr → Prop) (S : Road.Str Z h0 a b cs) (hj : j.toInt = (i : Int)) (hi : i < cs.length) (cp : Int32) (Hc : Sta Z Z.heap Road.SN "COMPACT_STRINGS" "Z" (.int cp)) (hcp : ¬ cp = 0) (fm : Value) (hfm : fm.isRef = true) (Hf : Sta Z Z.heap "jdk/internal/util/Preconditions" "SIOOBE_FORMATTER" "Ljava/util/function/BiFunction;" fm) :
    Road.Con l Z consts_1 n0 false bChA [] σ #[(.ref a), (.int j)] h0 (fun v h2 _ => v = some (.int cs[i]) ∧ h0 = h2) := by
  refine Road.Con.of bChA_pn hEW #[.val (.ref a), .val (.int j)] (fun m => Road.ent (Road.laid1 rfl (Road.laid1 rfl Road.laid0)) (k := 0) rfl rfl) ?_
  intro D hD
  refine Road.aloadN 0 bChA_d0 rfl ?_
  refine Road.callV (B' := bIsL) (a := a) 1 (argsL := []) (rest := []) "java/lang/String" 0 bChA_d1 (hw _ (List.mem_of_getElem? (i := 268) rfl)) (hw _ (List.mem_of_getElem? (i := 269) rfl)) (fun vm hz => Road.notFace_sib (args := #[]) (mv (s := D.s.setVm vm) hz (hw _ (List.mem_of_getElem? (i := 127) rfl))) rfl) (hw _ (List.mem_of_getElem? (i := 271) rfl)) (hw _ (List.mem_of_getElem? (i := 270) rfl)) (hw _ (List.mem_of_getElem? (i := 48) rfl)) (hw _ (List.mem_of_getElem? (i := 272) rfl)) (by decide) S.1 (cIsL l Z a0 hw n0 hEW a h0 σ S.2.1 cp Hc hcp) (lenOf bIsL_pd rfl) rfl rfl rfl (by decide) (by decide) (ce' := 0) (sl' := 0) rfl rfl (by decide) (by decide) ?_
  rintro _ h_1 σ_2 m_3 ⟨rfl, rfl⟩
  refine Road.Go.weaken (σ' := σ) m_3 (Nat.le_refl _) (Nat.le_refl _) ?_
  refine Road.if_eq 4 16 bChA_d4 rfl (fun q => absurd q (by decide)) (fun hc4 => ?_)
  refine Road.aloadN 7 bChA_d7 rfl ?_
  refine Road.getfield 8 bChA_d8 (hw _ (List.mem_of_getElem? (i := 121) rfl)) Via.refl S.2.2.1 ?_
  refine Road.iloadN 11 bChA_d11 rfl ?_
  refine Road.callS (B' := bLch) 12 (argsL := [(.ref b), (.int j)]) (rest := []) 0 bChA_d12 (hw _ (List.mem_of_getElem? (i := 273) rfl)) (hw _ (List.mem_of_getElem? (i := 274) rfl)) (hw _ (List.mem_of_getElem? (i := 143) rfl)) (hw _ (List.mem_of_getElem? (i := 275) rfl)) (by decide) (cLch l Z a0 hw n0 hEW b cs j i h0 σ S.2.2.2.1 S.2.2.2.2 hj hi fm hfm Hf) (lenOf bLch_pd rfl) rfl rfl rfl (by decide) (by decide) (ce' := 0) (sl' := 0) rfl rfl (by decide) (by decide) ?_
  rintro _ h_5 σ_6 m_7 ⟨rfl, rfl⟩
  refine Road.Go.weaken (σ' := σ) m_7 (Nat.le_refl _) (Nat.le_refl _) ?_
  exact Road.iret 15 cs[i] bChA_d15 (t := .char) rfl (by simp) (Road.nar_lat (S.2.2.2.2 _ (List.getElem_mem hi))) (by decide) (by decide) (fun σ' m => ⟨rfl, rfl⟩)
def bAcI : Road.Bdy := (⟨"java/util/AbstractCollection", "<init>", "()V"⟩, jdk_22_method_1_code, 1, none, { frames := 1, cells := 0, slots := 0, locals := 12 })
theorem bAcI_d0 : decode bAcI.bs 0 = .ok (.aload_n 0, 1) := by decide +kernel
theorem bAcI_d1 : decode bAcI.bs 1 = .ok (.invokespecial 1, 3) := by decide +kernel
theorem bAcI_d4 : decode bAcI.bs 4 = .ok (.return_, 1) := by decide +kernel
theorem bAcI_pd : parseMethodDescriptor "()V" = some ⟨[], none⟩ := by decide +kernel
theorem bAcI_pn : plainFor bAcI.y = true := plainFor_of_name (show plainName "java/util/AbstractCollection" = true from by first | (simp [plainName, overriddenIn]; done) | decide +kernel)
theorem cAcI (l : Launch) (Z : State) (a0 : Array Value) (hw : ∀ d ∈ tables_1, d.before a0 Z = true) (n0 : Nat) (hEW : EW Z a0 consts_1) (a : Addr) (h0 : Heap) (σ : Addr → Prop)  :
    Road.Con l Z consts_1 n0 false bAcI [] σ #[(.ref a)] h0 (fun v h2 _ => v = none ∧ h0 = h2) := by
  refine Road.Con.of bAcI_pn hEW #[.val (.ref a)] (fun m => Road.ent (Road.laid1 rfl Road.laid0) (k := 0) rfl rfl) ?_
  intro D hD
  refine Road.aloadN 0 bAcI_d0 rfl ?_
  refine Road.initObj 1 bAcI_d1 (hw _ (List.mem_of_getElem? (i := 22) rfl)) (hw _ (List.mem_of_getElem? (i := 23) rfl)) (hw _ (List.mem_of_getElem? (i := 24) rfl)) 0 rfl rfl (by decide) (by decide) ?_
  exact Road.ret 4 bAcI_d4 rfl (by decide) (by decide) (fun σ' m => ⟨rfl, rfl⟩)
def bAbs : Road.Bdy := (⟨"java/util/AbstractList", "<init>", "()V"⟩, jdk_39_method_1_code, 1, none, { frames := 2, cells := 0, slots := 0, locals := 24 })
theorem bAbs_d0 : decode bAbs.bs 0 = .ok (.aload_n 0, 1) := by decide +kernel
theorem bAbs_d1 : decode bAbs.bs 1 = .ok (.invokespecial 1, 3) := by decide +kernel
theorem bAbs_d4 : decode bAbs.bs 4 = .ok (.aload_n 0, 1) := by decide +kernel
theorem bAbs_d5 : decode bAbs.bs 5 = .ok (.iconst 0, 1) := by decide +kernel
theorem bAbs_d6 : decode bAbs.bs 6 = .ok (.putfield 7, 3) := by decide +kernel
theorem bAbs_d9 : decode bAbs.bs 9 = .ok (.return_, 1) := by decide +kernel
theorem bAbs_pd : parseMethodDescriptor "()V" = some ⟨[], none⟩ := by decide +kernel
theorem bAbs_pn : plainFor bAbs.y = true := plainFor_of_name (show plainName "java/util/AbstractList" = true from by first | (simp [plainName, overriddenIn]; done) | decide +kernel)
theorem cAbs (l : Launch) (Z : State) (a0 : Array Value) (hw : ∀ d ∈ tables_1, d.before a0 Z = true) (n0 : Nat) (hEW : EW Z a0 consts_1) (a : Addr) (h0 : Heap) (σ : Addr → Prop) (E : Exa Z h0 a "java/util/ArrayList") (Fm : Fld Z h0 a "java/util/AbstractList" "modCount" "I" (.int 0)) (Fe : Fld Z h0 a "java/util/ArrayList" "elementData" "[Ljava/lang/Object;" .null) (Fs : Fld Z h0 a "java/util/ArrayList" "size" "I" (.int 0)) (sa : σ a) :
    Road.Con l Z consts_1 n0 false bAbs [] σ #[(.ref a)] h0 (fun v h2 _ => v = none ∧ Keep h0 h2 [a] ∧ Fld Z h2 a "java/util/AbstractList" "modCount" "I" (.int 0) ∧ Fld Z h2 a "java/util/ArrayList" "elementData" "[Ljava/lang/Object;" .null ∧ Fld Z h2 a "java/util/ArrayList" "size" "I" (.int 0)) := by
  refine Road.Con.of bAbs_pn hEW #[.val (.ref a)] (fun m => Road.ent (Road.laid1 rfl Road.laid0) (k := 0) rfl rfl) ?_
  intro D hD
  refine Road.aloadN 0 bAbs_d0 rfl ?_
  refine Road.callI (B' := bAcI) (a := a) 1 (argsL := []) (rest := []) 0 bAbs_d1 (hw _ (List.mem_of_getElem? (i := 16) rfl)) (hw _ (List.mem_of_getElem? (i := 17) rfl)) (hw _ (List.mem_of_getElem? (i := 20) rfl)) (hw _ (List.mem_of_getElem? (i := 21) rfl)) rfl rfl (by decide) (cAcI l Z a0 hw n0 hEW a h0 σ) (lenOf bAcI_pd rfl) rfl rfl rfl (by decide) (by decide) (ce' := 0) (sl' := 0) rfl rfl (by decide) (by decide) ?_
  rintro _ h_1 σ_2 m_3 ⟨rfl, rfl⟩
  refine Road.Go.weaken (σ' := σ) m_3 (Nat.le_refl _) (Nat.le_refl _) ?_
  refine Road.aloadN 4 bAbs_d4 rfl ?_
  refine Road.iconst 5 (0 : Int32) bAbs_d5 rfl ?_
  refine Road.putfield 6 bAbs_d6 (hw _ (List.mem_of_getElem? (i := 25) rfl)) Via.refl Fm E (Or.inl (hw _ (List.mem_of_getElem? (i := 26) rfl))) (hw _ (List.mem_of_getElem? (i := 5) rfl)) (ty := .int) (by decide) rfl rfl sa ?_
  intro h_7 W_5 K_6
  replace Fm := Fm.same W_5
  replace Fe := Fe.other W_5 (Or.inr (slot_ne (Or.inl (hw _ (List.mem_of_getElem? (i := 29) rfl))) (Or.inl (hw _ (List.mem_of_getElem? (i := 26) rfl))) (by decide) (t := (.array (.object "java/lang/Object"))) (by decide) (t' := .int) (by decide)))
  replace Fs := Fs.other W_5 (Or.inr (slot_ne (Or.inl (hw _ (List.mem_of_getElem? (i := 64) rfl))) (Or.inl (hw _ (List.mem_of_getElem? (i := 26) rfl))) (by decide) (t := .int) (by decide) (t' := .int) (by decide)))
  replace E := E.keep K_6
  exact Road.ret 9 bAbs_d9 rfl (by decide) (by decide) (fun σ' m => ⟨rfl, K_6, Fm, Fe, Fs⟩)
def bAlI : Road.Bdy := (⟨"java/util/ArrayList", "<init>", "()V"⟩, jdk_38_method_2_code, 1, none, { frames := 3, cells := 0, slots := 0, locals := 36 })
theorem bAlI_d0 : decode bAlI.bs 0 = .ok (.aload_n 0, 1) := by decide +kernel
theorem bAlI_d1 : decode bAlI.bs 1 = .ok (.invokespecial 1, 3) := by decide +kernel
theorem bAlI_d4 : decode bAlI.bs 4 = .ok (.aload_n 0, 1) := by decide +kernel
theorem bAlI_d5 : decode bAlI.bs 5 = .ok (.getstatic 39, 3) := by decide +kernel
theorem bAlI_d8 : decode bAlI.bs 8 = .ok (.putfield 9, 3) := by decide +kernel
theorem bAlI_d11 : decode bAlI.bs 11 = .ok (.return_, 1) := by decide +kernel
theorem bAlI_pd : parseMethodDescriptor "()V" = some ⟨[], none⟩ := by decide +kernel
theorem bAlI_pn : plainFor bAlI.y = true := plainFor_of_name (show plainName "java/util/ArrayList" = true from by first | (simp [plainName, overriddenIn]; done) | decide +kernel)
theorem cAlI (l : Launch) (Z : State) (a0 : Array Value) (hw : ∀ d ∈ tables_1, d.before a0 Z = true) (n0 : Nat) (hEW : EW Z a0 consts_1) (a : Addr) (h0 : Heap) (σ : Addr → Prop) (E : Exa Z h0 a "java/util/ArrayList") (Fm : Fld Z h0 a "java/util/AbstractList" "modCount" "I" (.int 0)) (Fe : Fld Z h0 a "java/util/ArrayList" "elementData" "[Ljava/lang/Object;" .null) (Fs : Fld Z h0 a "java/util/ArrayList" "size" "I" (.int 0)) (sa : σ a) (da : Addr) (HDa : Sta Z Z.heap "java/util/ArrayList" "DEFAULTCAPACITY_EMPTY_ELEMENTDATA" "[Ljava/lang/Object;" (.ref da)) (ADa : Road.Ary Z Z.heap da (.object "java/lang/Object") []) :
    Road.Con l Z consts_1 n0 false bAlI [] σ #[(.ref a)] h0 (fun v h2 _ => v = none ∧ Keep h0 h2 [a] ∧ Fld Z h2 a "java/util/AbstractList" "modCount" "I" (.int 0) ∧ Fld Z h2 a "java/util/ArrayList" "elementData" "[Ljava/lang/Object;" (.ref da) ∧ Fld Z h2 a "java/util/ArrayList" "size" "I" (.int 0)) := by
  refine Road.Con.of bAlI_pn hEW #[.val (.ref a)] (fun m => Road.ent (Road.laid1 rfl Road.laid0) (k := 0) rfl rfl) ?_
  intro D hD
  refine Road.aloadN 0 bAlI_d0 rfl ?_
  refine Road.callI (B' := bAbs) (a := a) 1 (argsL := []) (rest := []) 0 bAlI_d1 (hw _ (List.mem_of_getElem? (i := 10) rfl)) (hw _ (List.mem_of_getElem? (i := 11) rfl)) (hw _ (List.mem_of_getElem? (i := 14) rfl)) (hw _ (List.mem_of_getElem? (i := 15) rfl)) rfl rfl (by decide) (cAbs l Z a0 hw n0 hEW a h0 σ E Fm Fe Fs sa) (lenOf bAbs_pd rfl) rfl rfl rfl (by decide) (by decide) (ce' := 0) (sl' := 0) rfl rfl (by decide) (by decide) ?_
  rintro _ h_1 σ_2 m_3 ⟨rfl, K_4, Fm, Fe, Fs⟩
  replace E := E.keep K_4
  replace sa := m_3 _ sa
  refine Road.aloadN 4 bAlI_d4 rfl ?_
  refine Road.getstatic 5 bAlI_d5 (hw _ (List.mem_of_getElem? (i := 27) rfl)) Via.refl HDa ?_
  refine Road.putfield 8 bAlI_d8 (hw _ (List.mem_of_getElem? (i := 28) rfl)) Via.refl Fe E (Or.inl (hw _ (List.mem_of_getElem? (i := 29) rfl))) (hw _ (List.mem_of_getElem? (i := 5) rfl)) (ty := (.array (.object "java/lang/Object"))) (by decide) rfl rfl sa ?_
  intro h_8 W_6 K_7
  replace Fe := Fe.same W_6
  replace Fm := Fm.other W_6 (Or.inr (slot_ne (Or.inl (hw _ (List.mem_of_getElem? (i := 26) rfl))) (Or.inl (hw _ (List.mem_of_getElem? (i := 29) rfl))) (by decide) (t := .int) (by decide) (t' := (.array (.object "java/lang/Object"))) (by decide)))
  replace Fs := Fs.other W_6 (Or.inr (slot_ne (Or.inl (hw _ (List.mem_of_getElem? (i := 64) rfl))) (Or.inl (hw _ (List.mem_of_getElem? (i := 29) rfl))) (by decide) (t := .int) (by decide) (t' := (.array (.object "java/lang/Object"))) (by decide)))
  replace E := E.keep K_7
  exact Road.ret 11 bAlI_d11 rfl (by decide) (by decide) (fun σ' m => ⟨rfl, K_4.trans K_7 (by simp), Fm, Fe, Fs⟩)
def bAlS : Road.Bdy := (⟨"java/util/ArrayList", "size", "()I"⟩, jdk_38_method_8_code, 1, (some .int), { frames := 0, cells := 0, slots := 0, locals := 0 })
theorem bAlS_d0 : decode bAlS.bs 0 = .ok (.aload_n 0, 1) := by decide +kernel
theorem bAlS_d1 : decode bAlS.bs 1 = .ok (.getfield 48, 3) := by decide +kernel
theorem bAlS_d4 : decode bAlS.bs 4 = .ok (.ireturn, 1) := by decide +kernel
theorem bAlS_pd : parseMethodDescriptor "()I" = some ⟨[], (some .int)⟩ := by decide +kernel
theorem bAlS_pn : plainFor bAlS.y = true := plainFor_of_name (show plainName "java/util/ArrayList" = true from by first | (simp [plainName, overriddenIn]; done) | decide +kernel)
theorem cAlS (l : Launch) (Z : State) (a0 : Array Value) (hw : ∀ d ∈ tables_1, d.before a0 Z = true) (n0 : Nat) (hEW : EW Z a0 consts_1) (a : Addr) (n : Int32) (h0 : Heap) (σ : Addr → Prop) (Fs : Fld Z h0 a "java/util/ArrayList" "size" "I" (.int n)) :
    Road.Con l Z consts_1 n0 false bAlS [] σ #[(.ref a)] h0 (fun v h2 _ => v = some (.int n) ∧ h0 = h2) := by
  refine Road.Con.of bAlS_pn hEW #[.val (.ref a)] (fun m => Road.ent (Road.laid1 rfl Road.laid0) (k := 0) rfl rfl) ?_
  intro D hD
  refine Road.aloadN 0 bAlS_d0 rfl ?_
  refine Road.getfield 1 bAlS_d1 (hw _ (List.mem_of_getElem? (i := 63) rfl)) Via.refl Fs ?_
  exact Road.iretI 4 bAlS_d4 rfl (by decide) (by decide) (fun σ' m => ⟨rfl, rfl⟩)
def bOci : Road.Bdy := (⟨"java/util/Objects", "checkIndex", "(II)I"⟩, jdk_31_method_17_code, 2, (some .int), { frames := 1, cells := 0, slots := 0, locals := 14 })
theorem bOci_d0 : decode bOci.bs 0 = .ok (.iload_n 0, 1) := by decide +kernel
theorem bOci_d1 : decode bOci.bs 1 = .ok (.iload_n 1, 1) := by decide +kernel
theorem bOci_d2 : decode bOci.bs 2 = .ok (.aconst_null, 1) := by decide +kernel
theorem bOci_d3 : decode bOci.bs 3 = .ok (.invokestatic 105, 3) := by decide +kernel
theorem bOci_d6 : decode bOci.bs 6 = .ok (.ireturn, 1) := by decide +kernel
theorem bOci_pd : parseMethodDescriptor "(II)I" = some ⟨[.int, .int], (some .int)⟩ := by decide +kernel
theorem bOci_pn : plainFor bOci.y = true := plainFor_of_name (show plainName "java/util/Objects" = true from by first | (simp [plainName, overriddenIn]; done) | decide +kernel)
theorem cOci (l : Launch) (Z : State) (a0 : Array Value) (hw : ∀ d ∈ tables_1, d.before a0 Z = true) (n0 : Nat) (hEW : EW Z a0 consts_1) (j n : Int32) (h0 : Heap) (σ : Addr → Prop) (hj : ¬ j < 0) (hjn : j < n) :
    Road.Con l Z consts_1 n0 false bOci [] σ #[(.int j), (.int n)] h0 (fun v h2 _ => v = some (.int j) ∧ h0 = h2) := by
  refine Road.Con.of bOci_pn hEW #[.val (.int j), .val (.int n)] (fun m => Road.ent (Road.laid1 rfl (Road.laid1 rfl Road.laid0)) (k := 0) rfl rfl) ?_
  intro D hD
  refine Road.iloadN 0 bOci_d0 rfl ?_
  refine Road.iloadN 1 bOci_d1 rfl ?_
  refine Road.aconstNull 2 bOci_d2 ?_
  refine Road.callS (B' := bPre) 3 (argsL := [(.int j), (.int n), .null]) (rest := []) 0 bOci_d3 (hw _ (List.mem_of_getElem? (i := 231) rfl)) (hw _ (List.mem_of_getElem? (i := 232) rfl)) (hw _ (List.mem_of_getElem? (i := 233) rfl)) (hw _ (List.mem_of_getElem? (i := 234) rfl)) (by decide) (cPre l Z a0 hw n0 hEW j n .null h0 σ rfl hj hjn) (lenOf bPre_pd rfl) rfl rfl rfl (by decide) (by decide) (ce' := 0) (sl' := 0) rfl rfl (by decide) (by decide) ?_
  rintro _ h_1 σ_2 m_3 ⟨rfl, rfl⟩
  refine Road.Go.weaken (σ' := σ) m_3 (Nat.le_refl _) (Nat.le_refl _) ?_
  exact Road.iretI 6 bOci_d6 rfl (by decide) (by decide) (fun σ' m => ⟨rfl, rfl⟩)
def bAlE : Road.Bdy := (⟨"java/util/ArrayList", "elementData", "(I)Ljava/lang/Object;"⟩, jdk_38_method_18_code, 2, (some (.object "java/lang/Object")), { frames := 0, cells := 0, slots := 0, locals := 0 })
theorem bAlE_d0 : decode bAlE.bs 0 = .ok (.aload_n 0, 1) := by decide +kernel
theorem bAlE_d1 : decode bAlE.bs 1 = .ok (.getfield 9, 3) := by decide +kernel
theorem bAlE_d4 : decode bAlE.bs 4 = .ok (.iload_n 1, 1) := by decide +kernel
theorem bAlE_d5 : decode bAlE.bs 5 = .ok (.aaload, 1) := by decide +kernel
theorem bAlE_d6 : decode bAlE.bs 6 = .ok (.areturn, 1) := by decide +kernel
theorem bAlE_pd : parseMethodDescriptor "(I)Ljava/lang/Object;" = some ⟨[.int], (some (.object "java/lang/Object"))⟩ := by decide +kernel
theorem bAlE_pn : plainFor bAlE.y = true := plainFor_of_name (show plainName "java/util/ArrayList" = true from by first | (simp [plainName, overriddenIn]; done) | decide +kernel)
theorem cAlE (l : Launch) (Z : State) (a0 : Array Value) (hw : ∀ d ∈ tables_1, d.before a0 Z = true) (n0 : Nat) (hEW : EW Z a0 consts_1) (a e y : Addr) (vs : List Value) (j : Int32) (i : Nat) (h0 : Heap) (σ : Addr → Prop) (Fe : Fld Z h0 a "java/util/ArrayList" "elementData" "[Ljava/lang/Object;" (.ref e)) (A : Road.Ary Z h0 e (.object "java/lang/Object") vs) (hj : j.toInt = (i : Int)) (hv : vs[i]? = some (.ref y)) :
    Road.Con l Z consts_1 n0 false bAlE [] σ #[(.ref a), (.int j)] h0 (fun v h2 _ => v = some (.ref y) ∧ h0 = h2) := by
  refine Road.Con.of bAlE_pn hEW #[.val (.ref a), .val (.int j)] (fun m => Road.ent (Road.laid1 rfl (Road.laid1 rfl Road.laid0)) (k := 0) rfl rfl) ?_
  intro D hD
  refine Road.aloadN 0 bAlE_d0 rfl ?_
  refine Road.getfield 1 bAlE_d1 (hw _ (List.mem_of_getElem? (i := 28) rfl)) Via.refl Fe ?_
  refine Road.iloadN 4 bAlE_d4 rfl ?_
  refine Road.aaload 5 i bAlE_d5 A rfl hj hv ?_
  exact Road.aret 6 bAlE_d6 (t := (.object "java/lang/Object")) rfl rfl rfl (by decide) (by decide) (fun σ' m => ⟨rfl, rfl⟩)
def bAlG : Road.Bdy := (⟨"java/util/ArrayList", "get", "(I)Ljava/lang/Object;"⟩, jdk_38_method_20_code, 2, (some (.object "java/lang/Object")), { frames := 2, cells := 0, slots := 0, locals := 27 })
theorem bAlG_d0 : decode bAlG.bs 0 = .ok (.iload_n 1, 1) := by decide +kernel
theorem bAlG_d1 : decode bAlG.bs 1 = .ok (.aload_n 0, 1) := by decide +kernel
theorem bAlG_d2 : decode bAlG.bs 2 = .ok (.getfield 48, 3) := by decide +kernel
theorem bAlG_d5 : decode bAlG.bs 5 = .ok (.invokestatic 118, 3) := by decide +kernel
theorem bAlG_d8 : decode bAlG.bs 8 = .ok (.pop, 1) := by decide +kernel
theorem bAlG_d9 : decode bAlG.bs 9 = .ok (.aload_n 0, 1) := by decide +kernel
theorem bAlG_d10 : decode bAlG.bs 10 = .ok (.iload_n 1, 1) := by decide +kernel
theorem bAlG_d11 : decode bAlG.bs 11 = .ok (.invokevirtual 123, 3) := by decide +kernel
theorem bAlG_d14 : decode bAlG.bs 14 = .ok (.areturn, 1) := by decide +kernel
theorem bAlG_pd : parseMethodDescriptor "(I)Ljava/lang/Object;" = some ⟨[.int], (some (.object "java/lang/Object"))⟩ := by decide +kernel
theorem bAlG_pn : plainFor bAlG.y = true := plainFor_of_name (show plainName "java/util/ArrayList" = true from by first | (simp [plainName, overriddenIn]; done) | decide +kernel)
theorem cAlG (l : Launch) (Z : State) (a0 : Array Value) (hw : ∀ d ∈ tables_1, d.before a0 Z = true) (n0 : Nat) (hEW : EW Z a0 consts_1) (a e y : Addr) (vs : List Value) (j n : Int32) (i : Nat) (h0 : Heap) (σ : Addr → Prop) (E : Exa Z h0 a "java/util/ArrayList") (Fe : Fld Z h0 a "java/util/ArrayList" "elementData" "[Ljava/lang/Object;" (.ref e)) (A : Road.Ary Z h0 e (.object "java/lang/Object") vs) (hj : j.toInt = (i : Int)) (hv : vs[i]? = some (.ref y)) (Fs : Fld Z h0 a "java/util/ArrayList" "size" "I" (.int n)) (hjn : j < n) :
    Road.Con l Z consts_1 n0 false bAlG [] σ #[(.ref a), (.int j)] h0 (fun v h2 _ => v = some (.ref y) ∧ h0 = h2) := by
  refine Road.Con.of bAlG_pn hEW #[.val (.ref a), .val (.int j)] (fun m => Road.ent (Road.laid1 rfl (Road.laid1 rfl Road.laid0)) (k := 0) rfl rfl) ?_
  intro D hD
  refine Road.iloadN 0 bAlG_d0 rfl ?_
  refine Road.aloadN 1 bAlG_d1 rfl ?_
  refine Road.getfield 2 bAlG_d2 (hw _ (List.mem_of_getElem? (i := 63) rfl)) Via.refl Fs ?_
  refine Road.callS (B' := bOci) 5 (argsL := [(.int j), (.int n)]) (rest := []) 0 bAlG_d5 (hw _ (List.mem_of_getElem? (i := 227) rfl)) (hw _ (List.mem_of_getElem? (i := 228) rfl)) (hw _ (List.mem_of_getElem? (i := 229) rfl)) (hw _ (List.mem_of_getElem? (i := 230) rfl)) (by decide) (cOci l Z a0 hw n0 hEW j n h0 σ (Road.ix_of hj).1 hjn) (lenOf bOci_pd rfl) rfl rfl rfl (by decide) (by decide) (ce' := 0) (sl' := 0) rfl rfl (by decide) (by decide) ?_
  rintro _ h_1 σ_2 m_3 ⟨rfl, rfl⟩
  refine Road.Go.weaken (σ' := σ) m_3 (Nat.le_refl _) (Nat.le_refl _) ?_
  refine Road.pop 8 bAlG_d8 ?_
  refine Road.aloadN 9 bAlG_d9 rfl ?_
  refine Road.iloadN 10 bAlG_d10 rfl ?_
  refine Road.callV (B' := bAlE) (a := a) 11 (argsL := [(.int j)]) (rest := []) "java/util/ArrayList" 0 bAlG_d11 (hw _ (List.mem_of_getElem? (i := 235) rfl)) (hw _ (List.mem_of_getElem? (i := 236) rfl)) (fun vm hz => Road.notFace_sib (args := #[]) (mv (s := D.s.setVm vm) hz (hw _ (List.mem_of_getElem? (i := 155) rfl))) rfl) (hw _ (List.mem_of_getElem? (i := 238) rfl)) (hw _ (List.mem_of_getElem? (i := 237) rfl)) (hw _ (List.mem_of_getElem? (i := 6) rfl)) (hw _ (List.mem_of_getElem? (i := 239) rfl)) (by decide) E (cAlE l Z a0 hw n0 hEW a e y vs j i h0 σ Fe A hj hv) (lenOf bAlE_pd rfl) rfl rfl rfl (by decide) (by decide) (ce' := 0) (sl' := 0) rfl rfl (by decide) (by decide) ?_
  rintro _ h_5 σ_6 m_7 ⟨rfl, rfl⟩
  refine Road.Go.weaken (σ' := σ) m_7 (Nat.le_refl _) (Nat.le_refl _) ?_
  exact Road.aret 14 bAlG_d14 (t := (.object "java/lang/Object")) rfl rfl rfl (by decide) (by decide) (fun σ' m => ⟨rfl, rfl⟩)
def bMax : Road.Bdy := (⟨"java/lang/Math", "max", "(II)I"⟩, jdk_29_method_65_code, 2, (some .int), { frames := 0, cells := 0, slots := 0, locals := 0 })
theorem bMax_d0 : decode bMax.bs 0 = .ok (.iload_n 0, 1) := by decide +kernel
theorem bMax_d1 : decode bMax.bs 1 = .ok (.iload_n 1, 1) := by decide +kernel
theorem bMax_d2 : decode bMax.bs 2 = .ok (.if_icmp .lt 7, 3) := by decide +kernel
theorem bMax_d5 : decode bMax.bs 5 = .ok (.iload_n 0, 1) := by decide +kernel
theorem bMax_d6 : decode bMax.bs 6 = .ok (.goto 4, 3) := by decide +kernel
theorem bMax_d9 : decode bMax.bs 9 = .ok (.iload_n 1, 1) := by decide +kernel
theorem bMax_d10 : decode bMax.bs 10 = .ok (.ireturn, 1) := by decide +kernel
theorem bMax_pd : parseMethodDescriptor "(II)I" = some ⟨[.int, .int], (some .int)⟩ := by decide +kernel
theorem bMax_pn : plainFor bMax.y = true := Jvm.Free.JP.mathPlain rfl (by decide +kernel)
theorem cMax (l : Launch) (Z : State) (a0 : Array Value) (hw : ∀ d ∈ tables_1, d.before a0 Z = true) (n0 : Nat) (hEW : EW Z a0 consts_1) (i j : Nat) (h0 : Heap) (σ : Addr → Prop) (hi : i < 2147483648) (hj : j < 2147483648) :
    Road.Con l Z consts_1 n0 false bMax [] σ #[(.int (Nat.toInt32 i)), (.int (Nat.toInt32 j))] h0 (fun v h2 _ => v = some (.int (Nat.toInt32 (max i j))) ∧ h0 = h2) := by
  refine Road.Con.of bMax_pn hEW #[.val (.int (Nat.toInt32 i)), .val (.int (Nat.toInt32 j))] (fun m => Road.ent (Road.laid1 rfl (Road.laid1 rfl Road.laid0)) (k := 0) rfl rfl) ?_
  intro D hD
  refine Road.iloadN 0 bMax_d0 rfl ?_
  refine Road.iloadN 1 bMax_d1 rfl ?_
  refine Road.icmp_lt 2 9 bMax_d2 rfl (fun hc2 => ?_) (fun hc2 => ?_)
  · skip
    refine Road.iloadN 9 bMax_d9 rfl ?_
    exact Road.iretI 10 bMax_d10 rfl (by decide) (by decide) (fun σ' m => ⟨by rw [Road.lt32 hi hj] at hc2; rw [Nat.max_eq_right (by omega)], rfl⟩)
  · skip
    refine Road.iloadN 5 bMax_d5 rfl ?_
    refine Road.goto 6 10 bMax_d6 rfl ?_
    exact Road.iretI 10 bMax_d10 rfl (by decide) (by decide) (fun σ' m => ⟨by rw [Road.lt32 hi hj] at hc2; rw [Nat.max_eq_left (by omega)], rfl⟩)
def bGrI : Road.Bdy := (⟨"java/util/ArrayList", "grow", "(I)[Ljava/lang/Object;"⟩, jdk_38_method_6_code, 4, (some (.array (.object "java/lang/Object"))), { frames := 1, cells := 1, slots := 10, locals := 14 })
theorem bGrI_d0 : decode bGrI.bs 0 = .ok (.aload_n 0, 1) := by decide +kernel
theorem bGrI_d1 : decode bGrI.bs 1 = .ok (.getfield 9, 3) := by decide +kernel
theorem bGrI_d4 : decode bGrI.bs 4 = .ok (.arraylength, 1) := by decide +kernel
theorem bGrI_d5 : decode bGrI.bs 5 = .ok (.istore_n 2, 1) := by decide +kernel
theorem bGrI_d6 : decode bGrI.bs 6 = .ok (.iload_n 2, 1) := by decide +kernel
theorem bGrI_d7 : decode bGrI.bs 7 = .ok (.ifCond .gt 13, 3) := by decide +kernel
theorem bGrI_d10 : decode bGrI.bs 10 = .ok (.aload_n 0, 1) := by decide +kernel
theorem bGrI_d11 : decode bGrI.bs 11 = .ok (.getfield 9, 3) := by decide +kernel
theorem bGrI_d14 : decode bGrI.bs 14 = .ok (.getstatic 39, 3) := by decide +kernel
theorem bGrI_d17 : decode bGrI.bs 17 = .ok (.if_acmp .eq 28, 3) := by decide +kernel
theorem bGrI_d20 : decode bGrI.bs 20 = .ok (.iload_n 2, 1) := by decide +kernel
theorem bGrI_d21 : decode bGrI.bs 21 = .ok (.iload_n 1, 1) := by decide +kernel
theorem bGrI_d22 : decode bGrI.bs 22 = .ok (.iload_n 2, 1) := by decide +kernel
theorem bGrI_d23 : decode bGrI.bs 23 = .ok (.isub, 1) := by decide +kernel
theorem bGrI_d24 : decode bGrI.bs 24 = .ok (.iload_n 2, 1) := by decide +kernel
theorem bGrI_d25 : decode bGrI.bs 25 = .ok (.iconst 1, 1) := by decide +kernel
theorem bGrI_d26 : decode bGrI.bs 26 = .ok (.ishr, 1) := by decide +kernel
theorem bGrI_d27 : decode bGrI.bs 27 = .ok (.invokestatic 73, 3) := by decide +kernel
theorem bGrI_d30 : decode bGrI.bs 30 = .ok (.istore_n 3, 1) := by decide +kernel
theorem bGrI_d31 : decode bGrI.bs 31 = .ok (.aload_n 0, 1) := by decide +kernel
theorem bGrI_d32 : decode bGrI.bs 32 = .ok (.aload_n 0, 1) := by decide +kernel
theorem bGrI_d33 : decode bGrI.bs 33 = .ok (.getfield 9, 3) := by decide +kernel
theorem bGrI_d36 : decode bGrI.bs 36 = .ok (.iload_n 3, 1) := by decide +kernel
theorem bGrI_d37 : decode bGrI.bs 37 = .ok (.invokestatic 66, 3) := by decide +kernel
theorem bGrI_d40 : decode bGrI.bs 40 = .ok (.dup_x1, 1) := by decide +kernel
theorem bGrI_d41 : decode bGrI.bs 41 = .ok (.putfield 9, 3) := by decide +kernel
theorem bGrI_d44 : decode bGrI.bs 44 = .ok (.areturn, 1) := by decide +kernel
theorem bGrI_d45 : decode bGrI.bs 45 = .ok (.aload_n 0, 1) := by decide +kernel
theorem bGrI_d46 : decode bGrI.bs 46 = .ok (.bipush 10, 2) := by decide +kernel
theorem bGrI_d48 : decode bGrI.bs 48 = .ok (.iload_n 1, 1) := by decide +kernel
theorem bGrI_d49 : decode bGrI.bs 49 = .ok (.invokestatic 79, 3) := by decide +kernel
theorem bGrI_d52 : decode bGrI.bs 52 = .ok (.anewarray 7, 3) := by decide +kernel
theorem bGrI_d55 : decode bGrI.bs 55 = .ok (.dup_x1, 1) := by decide +kernel
theorem bGrI_d56 : decode bGrI.bs 56 = .ok (.putfield 9, 3) := by decide +kernel
theorem bGrI_d59 : decode bGrI.bs 59 = .ok (.areturn, 1) := by decide +kernel
theorem bGrI_pd : parseMethodDescriptor "(I)[Ljava/lang/Object;" = some ⟨[.int], (some (.array (.object "java/lang/Object")))⟩ := by decide +kernel
theorem bGrI_pn : plainFor bGrI.y = true := plainFor_of_name (show plainName "java/util/ArrayList" = true from by first | (simp [plainName, overriddenIn]; done) | decide +kernel)
theorem cGrI (l : Launch) (Z : State) (a0 : Array Value) (hw : ∀ d ∈ tables_1, d.before a0 Z = true) (n0 : Nat) (hEW : EW Z a0 consts_1) (a : Addr) (mc : Int32) (da : Addr) (h0 : Heap) (σ : Addr → Prop) (E : Exa Z h0 a "java/util/ArrayList") (Fm : Fld Z h0 a "java/util/AbstractList" "modCount" "I" (.int mc)) (Fe : Fld Z h0 a "java/util/ArrayList" "elementData" "[Ljava/lang/Object;" (.ref da)) (Fs : Fld Z h0 a "java/util/ArrayList" "size" "I" (.int 0)) (sa : σ a) (HDa : Sta Z Z.heap "java/util/ArrayList" "DEFAULTCAPACITY_EMPTY_ELEMENTDATA" "[Ljava/lang/Object;" (.ref da)) (ADa : Road.Ary Z Z.heap da (.object "java/lang/Object") []) :
    Road.Con l Z consts_1 n0 false bGrI [] σ #[(.ref a), (.int (1 : Int32))] h0 (fun v h2 s2 => ∃ e, v = some (.ref e) ∧ Keep h0 h2 [a] ∧ h0.size ≤ e ∧ s2 e ∧ Fld Z h2 a "java/util/AbstractList" "modCount" "I" (.int mc) ∧ Fld Z h2 a "java/util/ArrayList" "elementData" "[Ljava/lang/Object;" (.ref e) ∧ Fld Z h2 a "java/util/ArrayList" "size" "I" (.int 0) ∧ Road.Ary Z h2 e (.object "java/lang/Object") (List.replicate 10 .null) ∧ Road.Ova Z h2 e "java/lang/Object") := by
  refine Road.Con.of bGrI_pn hEW #[.val (.ref a), .val (.int (1 : Int32)), .unset, .unset] (fun m => Road.ent (Road.laid1 rfl (Road.laid1 rfl Road.laid0)) (k := 2) rfl rfl) ?_
  intro D hD
  refine Road.Go.old ?_
  intro hO
  have ADa' := ADa.keep (Road.keep_ext hO.2) nin0
  refine Road.aloadN 0 bGrI_d0 rfl ?_
  refine Road.getfield 1 bGrI_d1 (hw _ (List.mem_of_getElem? (i := 28) rfl)) Via.refl Fe ?_
  refine Road.alen 4 (0 : Int32) bGrI_d4 ADa' (n := 0) rfl rfl ?_
  refine Road.istoreN 5 #[.val (.ref a), .val (.int (1 : Int32)), .val (.int (0 : Int32)), .unset] bGrI_d5 rfl ?_
  refine Road.iloadN 6 bGrI_d6 rfl ?_
  refine Road.if_gt 7 20 bGrI_d7 rfl (fun q => absurd q (by decide)) (fun hc7 => ?_)
  refine Road.aloadN 10 bGrI_d10 rfl ?_
  refine Road.getfield 11 bGrI_d11 (hw _ (List.mem_of_getElem? (i := 28) rfl)) Via.refl Fe ?_
  refine Road.getstatic 14 bGrI_d14 (hw _ (List.mem_of_getElem? (i := 27) rfl)) Via.refl HDa ?_
  refine Road.acmp_eq 17 45 rfl rfl bGrI_d17 rfl (fun hc17 => ?_) (fun q => absurd q (by simp))
  refine Road.aloadN 45 bGrI_d45 rfl ?_
  refine Road.bipush 46 (10 : Int32) bGrI_d46 rfl ?_
  refine Road.iloadN 48 bGrI_d48 rfl ?_
  refine Road.callS (B' := bMax) 49 (argsL := [(.int (Nat.toInt32 10)), (.int (Nat.toInt32 1))]) (rest := [(.ref a)]) 1 bGrI_d49 (hw _ (List.mem_of_getElem? (i := 174) rfl)) (hw _ (List.mem_of_getElem? (i := 175) rfl)) (hw _ (List.mem_of_getElem? (i := 115) rfl)) (hw _ (List.mem_of_getElem? (i := 176) rfl)) (by decide) (cMax l Z a0 hw n0 hEW 10 1 h0 σ (by decide) (by decide)) (lenOf bMax_pd rfl) rfl rfl rfl (by decide) (by decide) (ce' := 0) (sl' := 0) rfl rfl (by decide) (by decide) ?_
  rintro _ h_1 σ_2 m_3 ⟨rfl, rfl⟩
  refine Road.Go.weaken (σ' := σ) m_3 (Nat.le_refl _) (Nat.le_refl _) ?_
  refine Road.anewarray 52 "java/lang/Object" 10 10 bGrI_d52 (hw _ (List.mem_of_getElem? (i := 177) rfl)) (hw _ (List.mem_of_getElem? (i := 178) rfl)) rfl (by decide) (by decide) (ce' := 1) (sl' := 10) rfl rfl (by decide) (by decide) ?_
  intro e h2 σ2 ge Ke lte me se Ae Oe
  have ne_a_e : a ≠ e := Nat.ne_of_lt (Nat.lt_of_lt_of_le E.lt (Nat.le_of_eq ge.symm))
  replace E := E.keep Ke
  replace Fm := Fm.keep Ke nin0
  replace Fe := Fe.keep Ke nin0
  replace Fs := Fs.keep Ke nin0
  replace sa := me _ sa
  refine Road.dupX1 55 bGrI_d55 ?_
  refine Road.putfield 56 bGrI_d56 (hw _ (List.mem_of_getElem? (i := 28) rfl)) Via.refl Fe E (Or.inl (hw _ (List.mem_of_getElem? (i := 29) rfl))) (hw _ (List.mem_of_getElem? (i := 5) rfl)) (ty := (.array (.object "java/lang/Object"))) (by decide) rfl rfl sa ?_
  intro h_7 W_5 K_6
  replace Fe := Fe.same W_5
  replace Fm := Fm.other W_5 (Or.inr (slot_ne (Or.inl (hw _ (List.mem_of_getElem? (i := 26) rfl))) (Or.inl (hw _ (List.mem_of_getElem? (i := 29) rfl))) (by decide) (t := .int) (by decide) (t' := (.array (.object "java/lang/Object"))) (by decide)))
  replace Fs := Fs.other W_5 (Or.inr (slot_ne (Or.inl (hw _ (List.mem_of_getElem? (i := 64) rfl))) (Or.inl (hw _ (List.mem_of_getElem? (i := 29) rfl))) (by decide) (t := .int) (by decide) (t' := (.array (.object "java/lang/Object"))) (by decide)))
  replace E := E.keep K_6
  replace Ae := Ae.keep K_6 (ninS (Ne.symm ne_a_e) nin0)
  replace Oe := Oe.keep K_6
  exact Road.aret 59 bGrI_d59 (t := (.array (.object "java/lang/Object"))) rfl rfl rfl (by decide) (by decide) (fun σ' m => ⟨e, rfl, (Road.keep_more (ws := [a]) Ke).trans K_6 (by simp), Nat.le_of_eq ge.symm, m _ se, Fm, Fe, Fs, Ae, Oe⟩)
def bGr0 : Road.Bdy := (⟨"java/util/ArrayList", "grow", "()[Ljava/lang/Object;"⟩, jdk_38_method_7_code, 1, (some (.array (.object "java/lang/Object"))), { frames := 2, cells := 1, slots := 10, locals := 29 })
theorem bGr0_d0 : decode bGr0.bs 0 = .ok (.aload_n 0, 1) := by decide +kernel
theorem bGr0_d1 : decode bGr0.bs 1 = .ok (.aload_n 0, 1) := by decide +kernel
theorem bGr0_d2 : decode bGr0.bs 2 = .ok (.getfield 48, 3) := by decide +kernel
theorem bGr0_d5 : decode bGr0.bs 5 = .ok (.iconst 1, 1) := by decide +kernel
theorem bGr0_d6 : decode bGr0.bs 6 = .ok (.iadd, 1) := by decide +kernel
theorem bGr0_d7 : decode bGr0.bs 7 = .ok (.invokevirtual 69, 3) := by decide +kernel
theorem bGr0_d10 : decode bGr0.bs 10 = .ok (.areturn, 1) := by decide +kernel
theorem bGr0_pd : parseMethodDescriptor "()[Ljava/lang/Object;" = some ⟨[], (some (.array (.object "java/lang/Object")))⟩ := by decide +kernel
theorem bGr0_pn : plainFor bGr0.y = true := plainFor_of_name (show plainName "java/util/ArrayList" = true from by first | (simp [plainName, overriddenIn]; done) | decide +kernel)
theorem cGr0 (l : Launch) (Z : State) (a0 : Array Value) (hw : ∀ d ∈ tables_1, d.before a0 Z = true) (n0 : Nat) (hEW : EW Z a0 consts_1) (a : Addr) (mc : Int32) (da : Addr) (h0 : Heap) (σ : Addr → Prop) (E : Exa Z h0 a "java/util/ArrayList") (Fm : Fld Z h0 a "java/util/AbstractList" "modCount" "I" (.int mc)) (Fe : Fld Z h0 a "java/util/ArrayList" "elementData" "[Ljava/lang/Object;" (.ref da)) (Fs : Fld Z h0 a "java/util/ArrayList" "size" "I" (.int 0)) (sa : σ a) (HDa : Sta Z Z.heap "java/util/ArrayList" "DEFAULTCAPACITY_EMPTY_ELEMENTDATA" "[Ljava/lang/Object;" (.ref da)) (ADa : Road.Ary Z Z.heap da (.object "java/lang/Object") []) :
    Road.Con l Z consts_1 n0 false bGr0 [] σ #[(.ref a)] h0 (fun v h2 s2 => ∃ e, v = some (.ref e) ∧ Keep h0 h2 [a] ∧ h0.size ≤ e ∧ s2 e ∧ Fld Z h2 a "java/util/AbstractList" "modCount" "I" (.int mc) ∧ Fld Z h2 a "java/util/ArrayList" "elementData" "[Ljava/lang/Object;" (.ref e) ∧ Fld Z h2 a "java/util/ArrayList" "size" "I" (.int 0) ∧ Road.Ary Z h2 e (.object "java/lang/Object") (List.replicate 10 .null) ∧ Road.Ova Z h2 e "java/lang/Object") := by
  refine Road.Con.of bGr0_pn hEW #[.val (.ref a)] (fun m => Road.ent (Road.laid1 rfl Road.laid0) (k := 0) rfl rfl) ?_
  intro D hD
  refine Road.aloadN 0 bGr0_d0 rfl ?_
  refine Road.aloadN 1 bGr0_d1 rfl ?_
  refine Road.getfield 2 bGr0_d2 (hw _ (List.mem_of_getElem? (i := 63) rfl)) Via.refl Fs ?_
  refine Road.iconst 5 (1 : Int32) bGr0_d5 rfl ?_
  refine Road.iadd 6 bGr0_d6 ?_
  refine Road.nameI ?_
  intro z_1 hz_1
  obtain rfl : z_1 = (1 : Int32) := by rw [hz_1]; decide
  refine Road.callP (B' := bGrI) (a := a) 7 (argsL := [(.int (1 : Int32))]) (rest := []) "java/util/ArrayList" 0 bGr0_d7 (hw _ (List.mem_of_getElem? (i := 169) rfl)) (hw _ (List.mem_of_getElem? (i := 171) rfl)) (hw _ (List.mem_of_getElem? (i := 172) rfl)) (hw _ (List.mem_of_getElem? (i := 170) rfl)) (hw _ (List.mem_of_getElem? (i := 6) rfl)) (hw _ (List.mem_of_getElem? (i := 173) rfl)) (by decide) E (cGrI l Z a0 hw n0 hEW a mc da h0 σ E Fm Fe Fs sa HDa ADa) (lenOf bGrI_pd rfl) rfl rfl rfl (by decide) (by decide) (ce' := 1) (sl' := 10) rfl rfl (by decide) (by decide) ?_
  rintro _ h_2 σ_3 m_4 ⟨e, rfl, K_5, ge, se, Fm, Fe, Fs, Ae, Oe⟩
  exact Road.aret 10 bGr0_d10 (t := (.array (.object "java/lang/Object"))) rfl rfl rfl (by decide) (by decide) (fun σ' m => ⟨e, rfl, K_5, ge, m _ se, Fm, Fe, Fs, Ae, Oe⟩)
def bAd3_1 : Road.Bdy := (⟨"java/util/ArrayList", "add", "(Ljava/lang/Object;[Ljava/lang/Object;I)V"⟩, jdk_38_method_24_code, 4, none, { frames := 3, cells := 1, slots := 10, locals := 41 })
theorem bAd3_1_d0 : decode bAd3_1.bs 0 = .ok (.iload_n 3, 1) := by decide +kernel
theorem bAd3_1_d1 : decode bAd3_1.bs 1 = .ok (.aload_n 2, 1) := by decide +kernel
theorem bAd3_1_d2 : decode bAd3_1.bs 2 = .ok (.arraylength, 1) := by decide +kernel
theorem bAd3_1_d3 : decode bAd3_1.bs 3 = .ok (.if_icmp .ne 8, 3) := by decide +kernel
theorem bAd3_1_d6 : decode bAd3_1.bs 6 = .ok (.aload_n 0, 1) := by decide +kernel
theorem bAd3_1_d7 : decode bAd3_1.bs 7 = .ok (.invokevirtual 129, 3) := by decide +kernel
theorem bAd3_1_d10 : decode bAd3_1.bs 10 = .ok (.astore_n 2, 1) := by decide +kernel
theorem bAd3_1_d11 : decode bAd3_1.bs 11 = .ok (.aload_n 2, 1) := by decide +kernel
theorem bAd3_1_d12 : decode bAd3_1.bs 12 = .ok (.iload_n 3, 1) := by decide +kernel
theorem bAd3_1_d13 : decode bAd3_1.bs 13 = .ok (.aload_n 1, 1) := by decide +kernel
theorem bAd3_1_d14 : decode bAd3_1.bs 14 = .ok (.aastore, 1) := by decide +kernel
theorem bAd3_1_d15 : decode bAd3_1.bs 15 = .ok (.aload_n 0, 1) := by decide +kernel
theorem bAd3_1_d16 : decode bAd3_1.bs 16 = .ok (.iload_n 3, 1) := by decide +kernel
theorem bAd3_1_d17 : decode bAd3_1.bs 17 = .ok (.iconst 1, 1) := by decide +kernel
theorem bAd3_1_d18 : decode bAd3_1.bs 18 = .ok (.iadd, 1) := by decide +kernel
theorem bAd3_1_d19 : decode bAd3_1.bs 19 = .ok (.putfield 48, 3) := by decide +kernel
theorem bAd3_1_d22 : decode bAd3_1.bs 22 = .ok (.return_, 1) := by decide +kernel
theorem bAd3_1_pd : parseMethodDescriptor "(Ljava/lang/Object;[Ljava/lang/Object;I)V" = some ⟨[(.object "java/lang/Object"), (.array (.object "java/lang/Object")), .int], none⟩ := by decide +kernel
theorem bAd3_1_pn : plainFor bAd3_1.y = true := plainFor_of_name (show plainName "java/util/ArrayList" = true from by first | (simp [plainName, overriddenIn]; done) | decide +kernel)
theorem cAd3_1 (l : Launch) (Z : State) (a0 : Array Value) (hw : ∀ d ∈ tables_1, d.before a0 Z = true) (n0 : Nat) (hEW : EW Z a0 consts_1) (a y : Addr) (mc : Int32) (da : Addr) (h0 : Heap) (σ : Addr → Prop) (E : Exa Z h0 a "java/util/ArrayList") (Fm : Fld Z h0 a "java/util/AbstractList" "modCount" "I" (.int mc)) (Fe : Fld Z h0 a "java/util/ArrayList" "elementData" "[Ljava/lang/Object;" (.ref da)) (Fs : Fld Z h0 a "java/util/ArrayList" "size" "I" (.int 0)) (Ey : Exa Z h0 y "java/lang/String") (sa : σ a) (HDa : Sta Z Z.heap "java/util/ArrayList" "DEFAULTCAPACITY_EMPTY_ELEMENTDATA" "[Ljava/lang/Object;" (.ref da)) (ADa : Road.Ary Z Z.heap da (.object "java/lang/Object") []) :
    Road.Con l Z consts_1 n0 false bAd3_1 [] σ #[(.ref a), (.ref y), (.ref da), (.int (0 : Int32))] h0 (fun v h2 s2 => v = none ∧ Keep h0 h2 [a] ∧ ∃ e, h0.size ≤ e ∧ s2 e ∧ Fld Z h2 a "java/util/AbstractList" "modCount" "I" (.int mc) ∧ Fld Z h2 a "java/util/ArrayList" "elementData" "[Ljava/lang/Object;" (.ref e) ∧ Fld Z h2 a "java/util/ArrayList" "size" "I" (.int 1) ∧ Road.Ary Z h2 e (.object "java/lang/Object") (.ref y :: List.replicate 9 .null) ∧ Road.Ova Z h2 e "java/lang/Object") := by
  refine Road.Con.of bAd3_1_pn hEW #[.val (.ref a), .val (.ref y), .val (.ref da), .val (.int (0 : Int32))] (fun m => Road.ent (Road.laid1 rfl (Road.laid1 rfl (Road.laid1 rfl (Road.laid1 rfl Road.laid0)))) (k := 0) rfl rfl) ?_
  intro D hD
  refine Road.Go.old ?_
  intro hO
  have ADa' := ADa.keep (Road.keep_ext hO.2) nin0
  refine Road.iloadN 0 bAd3_1_d0 rfl ?_
  refine Road.aloadN 1 bAd3_1_d1 rfl ?_
  refine Road.alen 2 (0 : Int32) bAd3_1_d2 ADa' (n := 0) rfl rfl ?_
  refine Road.icmp_ne 3 11 bAd3_1_d3 rfl (fun q => absurd q (by simp)) (fun hc3 => ?_)
  refine Road.aloadN 6 bAd3_1_d6 rfl ?_
  refine Road.callP (B' := bGr0) (a := a) 7 (argsL := []) (rest := []) "java/util/ArrayList" 0 bAd3_1_d7 (hw _ (List.mem_of_getElem? (i := 164) rfl)) (hw _ (List.mem_of_getElem? (i := 166) rfl)) (hw _ (List.mem_of_getElem? (i := 167) rfl)) (hw _ (List.mem_of_getElem? (i := 165) rfl)) (hw _ (List.mem_of_getElem? (i := 6) rfl)) (hw _ (List.mem_of_getElem? (i := 168) rfl)) (by decide) E (cGr0 l Z a0 hw n0 hEW a mc da h0 σ E Fm Fe Fs sa HDa ADa) (lenOf bGr0_pd rfl) rfl rfl rfl (by decide) (by decide) (ce' := 1) (sl' := 10) rfl rfl (by decide) (by decide) ?_
  rintro _ h_1 σ_2 m_3 ⟨e, rfl, K_4, ge, se, Fm, Fe, Fs, Ae, Oe⟩
  replace Ey := Ey.keep K_4
  replace E := E.keep K_4
  replace sa := m_3 _ sa
  have nae : a ≠ e := by obtain ⟨c, Ar, -⟩ := Ae; exact ne_arr E (hw _ (List.mem_of_getElem? (i := 5) rfl)) Ar
  refine Road.astoreN 10 #[.val (.ref a), .val (.ref y), .val (.ref e), .val (.int (0 : Int32))] bAd3_1_d10 rfl ?_
  refine Road.aloadN 11 bAd3_1_d11 rfl ?_
  refine Road.iloadN 12 bAd3_1_d12 rfl ?_
  refine Road.aloadN 13 bAd3_1_d13 rfl ?_
  refine Road.aastore 14 0 bAd3_1_d14 Ae Oe (Ins.of_exa Ey (hw _ (List.mem_of_getElem? (i := 179) rfl))) rfl (by simp) se ?_
  intro h_6 K_7 Ae2
  replace Ey := Ey.keep K_7
  replace E := E.keep K_7
  replace Fm := Fm.keep K_7 (ninS nae nin0)
  replace Fe := Fe.keep K_7 (ninS nae nin0)
  replace Fs := Fs.keep K_7 (ninS nae nin0)
  replace Oe := Oe.keep K_7
  refine Road.aloadN 15 bAd3_1_d15 rfl ?_
  refine Road.iloadN 16 bAd3_1_d16 rfl ?_
  refine Road.iconst 17 (1 : Int32) bAd3_1_d17 rfl ?_
  refine Road.iadd 18 bAd3_1_d18 ?_
  refine Road.nameI ?_
  intro z_8 hz_8
  obtain rfl : z_8 = (1 : Int32) := by rw [hz_8]; decide
  refine Road.putfield 19 bAd3_1_d19 (hw _ (List.mem_of_getElem? (i := 63) rfl)) Via.refl Fs E (Or.inl (hw _ (List.mem_of_getElem? (i := 64) rfl))) (hw _ (List.mem_of_getElem? (i := 5) rfl)) (ty := .int) (by decide) rfl rfl sa ?_
  intro h_11 W_9 K_10
  replace Fs := Fs.same W_9
  replace Fm := Fm.other W_9 (Or.inr (slot_ne (Or.inl (hw _ (List.mem_of_getElem? (i := 26) rfl))) (Or.inl (hw _ (List.mem_of_getElem? (i := 64) rfl))) (by decide) (t := .int) (by decide) (t' := .int) (by decide)))
  replace Fe := Fe.other W_9 (Or.inr (slot_ne (Or.inl (hw _ (List.mem_of_getElem? (i := 29) rfl))) (Or.inl (hw _ (List.mem_of_getElem? (i := 64) rfl))) (by decide) (t := (.array (.object "java/lang/Object"))) (by decide) (t' := .int) (by decide)))
  replace Ey := Ey.keep K_10
  replace E := E.keep K_10
  replace Oe := Oe.keep K_10
  replace Ae2 := Ae2.keep K_10 (ninS (Ne.symm nae) nin0)
  exact Road.ret 22 bAd3_1_d22 rfl (by decide) (by decide) (fun σ' m => ⟨rfl, (K_4.trans K_7 (by intro z hz; cases List.mem_singleton.mp hz; exact Or.inr ge)).trans K_10 (by simp), e, ge, m _ se, Fm, Fe, Fs, Ae2, Oe⟩)
def bAdd1 : Road.Bdy := (⟨"java/util/ArrayList", "add", "(Ljava/lang/Object;)Z"⟩, jdk_38_method_25_code, 2, (some .boolean), { frames := 4, cells := 1, slots := 10, locals := 56 })
theorem bAdd1_d0 : decode bAdd1.bs 0 = .ok (.aload_n 0, 1) := by decide +kernel
theorem bAdd1_d1 : decode bAdd1.bs 1 = .ok (.dup, 1) := by decide +kernel
theorem bAdd1_d2 : decode bAdd1.bs 2 = .ok (.getfield 63, 3) := by decide +kernel
theorem bAdd1_d5 : decode bAdd1.bs 5 = .ok (.iconst 1, 1) := by decide +kernel
theorem bAdd1_d6 : decode bAdd1.bs 6 = .ok (.iadd, 1) := by decide +kernel
theorem bAdd1_d7 : decode bAdd1.bs 7 = .ok (.putfield 63, 3) := by decide +kernel
theorem bAdd1_d10 : decode bAdd1.bs 10 = .ok (.aload_n 0, 1) := by decide +kernel
theorem bAdd1_d11 : decode bAdd1.bs 11 = .ok (.aload_n 1, 1) := by decide +kernel
theorem bAdd1_d12 : decode bAdd1.bs 12 = .ok (.aload_n 0, 1) := by decide +kernel
theorem bAdd1_d13 : decode bAdd1.bs 13 = .ok (.getfield 9, 3) := by decide +kernel
theorem bAdd1_d16 : decode bAdd1.bs 16 = .ok (.aload_n 0, 1) := by decide +kernel
theorem bAdd1_d17 : decode bAdd1.bs 17 = .ok (.getfield 48, 3) := by decide +kernel
theorem bAdd1_d20 : decode bAdd1.bs 20 = .ok (.invokevirtual 131, 3) := by decide +kernel
theorem bAdd1_d23 : decode bAdd1.bs 23 = .ok (.iconst 1, 1) := by decide +kernel
theorem bAdd1_d24 : decode bAdd1.bs 24 = .ok (.ireturn, 1) := by decide +kernel
theorem bAdd1_pd : parseMethodDescriptor "(Ljava/lang/Object;)Z" = some ⟨[(.object "java/lang/Object")], (some .boolean)⟩ := by decide +kernel
theorem bAdd1_pn : plainFor bAdd1.y = true := plainFor_of_name (show plainName "java/util/ArrayList" = true from by first | (simp [plainName, overriddenIn]; done) | decide +kernel)
theorem cAdd1 (l : Launch) (Z : State) (a0 : Array Value) (hw : ∀ d ∈ tables_1, d.before a0 Z = true) (n0 : Nat) (hEW : EW Z a0 consts_1) (a y : Addr) (mc : Int32) (da : Addr) (h0 : Heap) (σ : Addr → Prop) (E : Exa Z h0 a "java/util/ArrayList") (Fm : Fld Z h0 a "java/util/AbstractList" "modCount" "I" (.int mc)) (Fe : Fld Z h0 a "java/util/ArrayList" "elementData" "[Ljava/lang/Object;" (.ref da)) (Fs : Fld Z h0 a "java/util/ArrayList" "size" "I" (.int 0)) (Ey : Exa Z h0 y "java/lang/String") (sa : σ a) (HDa : Sta Z Z.heap "java/util/ArrayList" "DEFAULTCAPACITY_EMPTY_ELEMENTDATA" "[Ljava/lang/Object;" (.ref da)) (ADa : Road.Ary Z Z.heap da (.object "java/lang/Object") []) :
    Road.Con l Z consts_1 n0 false bAdd1 [] σ #[(.ref a), (.ref y)] h0 (fun v h2 s2 => v = some (.int 1) ∧ Keep h0 h2 [a] ∧ ∃ e, h0.size ≤ e ∧ s2 e ∧ Fld Z h2 a "java/util/AbstractList" "modCount" "I" (.int (mc + 1)) ∧ Fld Z h2 a "java/util/ArrayList" "elementData" "[Ljava/lang/Object;" (.ref e) ∧ Fld Z h2 a "java/util/ArrayList" "size" "I" (.int 1) ∧ Road.Ary Z h2 e (.object "java/lang/Object") (.ref y :: List.replicate 9 .null) ∧ Road.Ova Z h2 e "java/lang/Object") := by
  refine Road.Con.of bAdd1_pn hEW #[.val (.ref a), .val (.ref y)] (fun m => Road.ent (Road.laid1 rfl (Road.laid1 rfl Road.laid0)) (k := 0) rfl rfl) ?_
  intro D hD
  refine Road.aloadN 0 bAdd1_d0 rfl ?_
  refine Road.dup 1 bAdd1_d1 ?_
  refine Road.getfield 2 bAdd1_d2 (hw _ (List.mem_of_getElem? (i := 157) rfl)) (Via.of (hw _ (List.mem_of_getElem? (i := 158) rfl))) Fm ?_
  refine Road.iconst 5 (1 : Int32) bAdd1_d5 rfl ?_
  refine Road.iadd 6 bAdd1_d6 ?_
  refine Road.putfield 7 bAdd1_d7 (hw _ (List.mem_of_getElem? (i := 157) rfl)) (Via.of (hw _ (List.mem_of_getElem? (i := 158) rfl))) Fm E (Or.inl (hw _ (List.mem_of_getElem? (i := 26) rfl))) (hw _ (List.mem_of_getElem? (i := 5) rfl)) (ty := .int) (by decide) rfl rfl sa ?_
  intro h_3 W_1 K_2
  replace Fm := Fm.same W_1
  replace Fe := Fe.other W_1 (Or.inr (slot_ne (Or.inl (hw _ (List.mem_of_getElem? (i := 29) rfl))) (Or.inl (hw _ (List.mem_of_getElem? (i := 26) rfl))) (by decide) (t := (.array (.object "java/lang/Object"))) (by decide) (t' := .int) (by decide)))
  replace Fs := Fs.other W_1 (Or.inr (slot_ne (Or.inl (hw _ (List.mem_of_getElem? (i := 64) rfl))) (Or.inl (hw _ (List.mem_of_getElem? (i := 26) rfl))) (by decide) (t := .int) (by decide) (t' := .int) (by decide)))
  replace E := E.keep K_2
  replace Ey := Ey.keep K_2
  refine Road.aloadN 10 bAdd1_d10 rfl ?_
  refine Road.aloadN 11 bAdd1_d11 rfl ?_
  refine Road.aloadN 12 bAdd1_d12 rfl ?_
  refine Road.getfield 13 bAdd1_d13 (hw _ (List.mem_of_getElem? (i := 28) rfl)) Via.refl Fe ?_
  refine Road.aloadN 16 bAdd1_d16 rfl ?_
  refine Road.getfield 17 bAdd1_d17 (hw _ (List.mem_of_getElem? (i := 63) rfl)) Via.refl Fs ?_
  refine Road.callP (B' := bAd3_1) (a := a) 20 (argsL := [(.ref y), (.ref da), (.int (0 : Int32))]) (rest := []) "java/util/ArrayList" 0 bAdd1_d20 (hw _ (List.mem_of_getElem? (i := 159) rfl)) (hw _ (List.mem_of_getElem? (i := 161) rfl)) (hw _ (List.mem_of_getElem? (i := 162) rfl)) (hw _ (List.mem_of_getElem? (i := 160) rfl)) (hw _ (List.mem_of_getElem? (i := 6) rfl)) (hw _ (List.mem_of_getElem? (i := 163) rfl)) (by decide) E (cAd3_1 l Z a0 hw n0 hEW a y (mc + 1) da h_3 σ E Fm Fe Fs Ey sa HDa ADa) (lenOf bAd3_1_pd rfl) rfl rfl rfl (by decide) (by decide) (ce' := 1) (sl' := 10) rfl rfl (by decide) (by decide) ?_
  rintro _ h_4 σ_5 m_6 ⟨rfl, K_7, e, ge, se, Fm, Fe, Fs, Ae, Oe⟩
  replace sa := m_6 _ sa
  refine Road.iconst 23 (1 : Int32) bAdd1_d23 rfl ?_
  exact Road.iret 24 1 bAdd1_d24 (t := .boolean) rfl (by simp) rfl (by decide) (by decide) (fun σ' m => ⟨rfl, K_2.trans K_7 (by simp), e, Nat.le_trans K_2.1 ge, m _ se, Fm, Fe, Fs, Ae, Oe⟩)
def bAd3_2 : Road.Bdy := (⟨"java/util/ArrayList", "add", "(Ljava/lang/Object;[Ljava/lang/Object;I)V"⟩, jdk_38_method_24_code, 4, none, { frames := 0, cells := 0, slots := 0, locals := 0 })
theorem bAd3_2_d0 : decode bAd3_2.bs 0 = .ok (.iload_n 3, 1) := by decide +kernel
theorem bAd3_2_d1 : decode bAd3_2.bs 1 = .ok (.aload_n 2, 1) := by decide +kernel
theorem bAd3_2_d2 : decode bAd3_2.bs 2 = .ok (.arraylength, 1) := by decide +kernel
theorem bAd3_2_d3 : decode bAd3_2.bs 3 = .ok (.if_icmp .ne 8, 3) := by decide +kernel
theorem bAd3_2_d6 : decode bAd3_2.bs 6 = .ok (.aload_n 0, 1) := by decide +kernel
theorem bAd3_2_d7 : decode bAd3_2.bs 7 = .ok (.invokevirtual 129, 3) := by decide +kernel
theorem bAd3_2_d10 : decode bAd3_2.bs 10 = .ok (.astore_n 2, 1) := by decide +kernel
theorem bAd3_2_d11 : decode bAd3_2.bs 11 = .ok (.aload_n 2, 1) := by decide +kernel
theorem bAd3_2_d12 : decode bAd3_2.bs 12 = .ok (.iload_n 3, 1) := by decide +kernel
theorem bAd3_2_d13 : decode bAd3_2.bs 13 = .ok (.aload_n 1, 1) := by decide +kernel
theorem bAd3_2_d14 : decode bAd3_2.bs 14 = .ok (.aastore, 1) := by decide +kernel
theorem bAd3_2_d15 : decode bAd3_2.bs 15 = .ok (.aload_n 0, 1) := by decide +kernel
theorem bAd3_2_d16 : decode bAd3_2.bs 16 = .ok (.iload_n 3, 1) := by decide +kernel
theorem bAd3_2_d17 : decode bAd3_2.bs 17 = .ok (.iconst 1, 1) := by decide +kernel
theorem bAd3_2_d18 : decode bAd3_2.bs 18 = .ok (.iadd, 1) := by decide +kernel
theorem bAd3_2_d19 : decode bAd3_2.bs 19 = .ok (.putfield 48, 3) := by decide +kernel
theorem bAd3_2_d22 : decode bAd3_2.bs 22 = .ok (.return_, 1) := by decide +kernel
theorem bAd3_2_pd : parseMethodDescriptor "(Ljava/lang/Object;[Ljava/lang/Object;I)V" = some ⟨[(.object "java/lang/Object"), (.array (.object "java/lang/Object")), .int], none⟩ := by decide +kernel
theorem bAd3_2_pn : plainFor bAd3_2.y = true := plainFor_of_name (show plainName "java/util/ArrayList" = true from by first | (simp [plainName, overriddenIn]; done) | decide +kernel)
theorem cAd3_2 (l : Launch) (Z : State) (a0 : Array Value) (hw : ∀ d ∈ tables_1, d.before a0 Z = true) (n0 : Nat) (hEW : EW Z a0 consts_1) (a e y0 y : Addr) (mc : Int32) (h0 : Heap) (σ : Addr → Prop) (E : Exa Z h0 a "java/util/ArrayList") (Fm : Fld Z h0 a "java/util/AbstractList" "modCount" "I" (.int mc)) (Fe : Fld Z h0 a "java/util/ArrayList" "elementData" "[Ljava/lang/Object;" (.ref e)) (Fs : Fld Z h0 a "java/util/ArrayList" "size" "I" (.int 1)) (Ey : Exa Z h0 y "java/lang/String") (sa : σ a) (se : σ e) (nae : a ≠ e) (Ae : Road.Ary Z h0 e (.object "java/lang/Object") (.ref y0 :: List.replicate 9 .null)) (Oe : Road.Ova Z h0 e "java/lang/Object") :
    Road.Con l Z consts_1 n0 false bAd3_2 [] σ #[(.ref a), (.ref y), (.ref e), (.int (1 : Int32))] h0 (fun v h2 s2 => v = none ∧ Keep h0 h2 [a, e] ∧ Fld Z h2 a "java/util/AbstractList" "modCount" "I" (.int mc) ∧ Fld Z h2 a "java/util/ArrayList" "elementData" "[Ljava/lang/Object;" (.ref e) ∧ Fld Z h2 a "java/util/ArrayList" "size" "I" (.int 2) ∧ Road.Ary Z h2 e (.object "java/lang/Object") (.ref y0 :: .ref y :: List.replicate 8 .null)) := by
  refine Road.Con.of bAd3_2_pn hEW #[.val (.ref a), .val (.ref y), .val (.ref e), .val (.int (1 : Int32))] (fun m => Road.ent (Road.laid1 rfl (Road.laid1 rfl (Road.laid1 rfl (Road.laid1 rfl Road.laid0)))) (k := 0) rfl rfl) ?_
  intro D hD
  refine Road.iloadN 0 bAd3_2_d0 rfl ?_
  refine Road.aloadN 1 bAd3_2_d1 rfl ?_
  refine Road.alen 2 (10 : Int32) bAd3_2_d2 Ae (n := 10) rfl rfl ?_
  refine Road.icmp_ne 3 11 bAd3_2_d3 rfl (fun hc3 => ?_) (fun q => absurd q (by decide))
  refine Road.aloadN 11 bAd3_2_d11 rfl ?_
  refine Road.iloadN 12 bAd3_2_d12 rfl ?_
  refine Road.aloadN 13 bAd3_2_d13 rfl ?_
  refine Road.aastore 14 1 bAd3_2_d14 Ae Oe (Ins.of_exa Ey (hw _ (List.mem_of_getElem? (i := 179) rfl))) rfl (by simp) se ?_
  intro h_1 K_2 Ae2
  replace E := E.keep K_2
  replace Fm := Fm.keep K_2 (ninS nae nin0)
  replace Fe := Fe.keep K_2 (ninS nae nin0)
  replace Fs := Fs.keep K_2 (ninS nae nin0)
  replace Ey := Ey.keep K_2
  replace Oe := Oe.keep K_2
  refine Road.aloadN 15 bAd3_2_d15 rfl ?_
  refine Road.iloadN 16 bAd3_2_d16 rfl ?_
  refine Road.iconst 17 (1 : Int32) bAd3_2_d17 rfl ?_
  refine Road.iadd 18 bAd3_2_d18 ?_
  refine Road.nameI ?_
  intro z_3 hz_3
  obtain rfl : z_3 = (2 : Int32) := by rw [hz_3]; decide
  refine Road.putfield 19 bAd3_2_d19 (hw _ (List.mem_of_getElem? (i := 63) rfl)) Via.refl Fs E (Or.inl (hw _ (List.mem_of_getElem? (i := 64) rfl))) (hw _ (List.mem_of_getElem? (i := 5) rfl)) (ty := .int) (by decide) rfl rfl sa ?_
  intro h_6 W_4 K_5
  replace Fs := Fs.same W_4
  replace Fm := Fm.other W_4 (Or.inr (slot_ne (Or.inl (hw _ (List.mem_of_getElem? (i := 26) rfl))) (Or.inl (hw _ (List.mem_of_getElem? (i := 64) rfl))) (by decide) (t := .int) (by decide) (t' := .int) (by decide)))
  replace Fe := Fe.other W_4 (Or.inr (slot_ne (Or.inl (hw _ (List.mem_of_getElem? (i := 29) rfl))) (Or.inl (hw _ (List.mem_of_getElem? (i := 64) rfl))) (by decide) (t := (.array (.object "java/lang/Object"))) (by decide) (t' := .int) (by decide)))
  replace E := E.keep K_5
  replace Ey := Ey.keep K_5
  replace Oe := Oe.keep K_5
  replace Ae2 := Ae2.keep K_5 (ninS (Ne.symm nae) nin0)
  exact Road.ret 22 bAd3_2_d22 rfl (by decide) (by decide) (fun σ' m => ⟨rfl, Road.keep2 K_2 K_5, Fm, Fe, Fs, Ae2⟩)
def bAdd2 : Road.Bdy := (⟨"java/util/ArrayList", "add", "(Ljava/lang/Object;)Z"⟩, jdk_38_method_25_code, 2, (some .boolean), { frames := 1, cells := 0, slots := 0, locals := 15 })
theorem bAdd2_d0 : decode bAdd2.bs 0 = .ok (.aload_n 0, 1) := by decide +kernel
theorem bAdd2_d1 : decode bAdd2.bs 1 = .ok (.dup, 1) := by decide +kernel
theorem bAdd2_d2 : decode bAdd2.bs 2 = .ok (.getfield 63, 3) := by decide +kernel
theorem bAdd2_d5 : decode bAdd2.bs 5 = .ok (.iconst 1, 1) := by decide +kernel
theorem bAdd2_d6 : decode bAdd2.bs 6 = .ok (.iadd, 1) := by decide +kernel
theorem bAdd2_d7 : decode bAdd2.bs 7 = .ok (.putfield 63, 3) := by decide +kernel
theorem bAdd2_d10 : decode bAdd2.bs 10 = .ok (.aload_n 0, 1) := by decide +kernel
theorem bAdd2_d11 : decode bAdd2.bs 11 = .ok (.aload_n 1, 1) := by decide +kernel
theorem bAdd2_d12 : decode bAdd2.bs 12 = .ok (.aload_n 0, 1) := by decide +kernel
theorem bAdd2_d13 : decode bAdd2.bs 13 = .ok (.getfield 9, 3) := by decide +kernel
theorem bAdd2_d16 : decode bAdd2.bs 16 = .ok (.aload_n 0, 1) := by decide +kernel
theorem bAdd2_d17 : decode bAdd2.bs 17 = .ok (.getfield 48, 3) := by decide +kernel
theorem bAdd2_d20 : decode bAdd2.bs 20 = .ok (.invokevirtual 131, 3) := by decide +kernel
theorem bAdd2_d23 : decode bAdd2.bs 23 = .ok (.iconst 1, 1) := by decide +kernel
theorem bAdd2_d24 : decode bAdd2.bs 24 = .ok (.ireturn, 1) := by decide +kernel
theorem bAdd2_pd : parseMethodDescriptor "(Ljava/lang/Object;)Z" = some ⟨[(.object "java/lang/Object")], (some .boolean)⟩ := by decide +kernel
theorem bAdd2_pn : plainFor bAdd2.y = true := plainFor_of_name (show plainName "java/util/ArrayList" = true from by first | (simp [plainName, overriddenIn]; done) | decide +kernel)
theorem cAdd2 (l : Launch) (Z : State) (a0 : Array Value) (hw : ∀ d ∈ tables_1, d.before a0 Z = true) (n0 : Nat) (hEW : EW Z a0 consts_1) (a e y0 y : Addr) (mc : Int32) (h0 : Heap) (σ : Addr → Prop) (E : Exa Z h0 a "java/util/ArrayList") (Fm : Fld Z h0 a "java/util/AbstractList" "modCount" "I" (.int mc)) (Fe : Fld Z h0 a "java/util/ArrayList" "elementData" "[Ljava/lang/Object;" (.ref e)) (Fs : Fld Z h0 a "java/util/ArrayList" "size" "I" (.int 1)) (Ey : Exa Z h0 y "java/lang/String") (sa : σ a) (se : σ e) (nae : a ≠ e) (Ae : Road.Ary Z h0 e (.object "java/lang/Object") (.ref y0 :: List.replicate 9 .null)) (Oe : Road.Ova Z h0 e "java/lang/Object") :
    Road.Con l Z consts_1 n0 false bAdd2 [] σ #[(.ref a), (.ref y)] h0 (fun v h2 s2 => v = some (.int 1) ∧ Keep h0 h2 [a, e] ∧ Fld Z h2 a "java/util/AbstractList" "modCount" "I" (.int (mc + 1)) ∧ Fld Z h2 a "java/util/ArrayList" "elementData" "[Ljava/lang/Object;" (.ref e) ∧ Fld Z h2 a "java/util/ArrayList" "size" "I" (.int 2) ∧ Road.Ary Z h2 e (.object "java/lang/Object") (.ref y0 :: .ref y :: List.replicate 8 .null)) := by
  refine Road.Con.of bAdd2_pn hEW #[.val (.ref a), .val (.ref y)] (fun m => Road.ent (Road.laid1 rfl (Road.laid1 rfl Road.laid0)) (k := 0) rfl rfl) ?_
  intro D hD
  refine Road.aloadN 0 bAdd2_d0 rfl ?_
  refine Road.dup 1 bAdd2_d1 ?_
  refine Road.getfield 2 bAdd2_d2 (hw _ (List.mem_of_getElem? (i := 157) rfl)) (Via.of (hw _ (List.mem_of_getElem? (i := 158) rfl))) Fm ?_
  refine Road.iconst 5 (1 : Int32) bAdd2_d5 rfl ?_
  refine Road.iadd 6 bAdd2_d6 ?_
  refine Road.putfield 7 bAdd2_d7 (hw _ (List.mem_of_getElem? (i := 157) rfl)) (Via.of (hw _ (List.mem_of_getElem? (i := 158) rfl))) Fm E (Or.inl (hw _ (List.mem_of_getElem? (i := 26) rfl))) (hw _ (List.mem_of_getElem? (i := 5) rfl)) (ty := .int) (by decide) rfl rfl sa ?_
  intro h_3 W_1 K_2
  replace Fm := Fm.same W_1
  replace Fe := Fe.other W_1 (Or.inr (slot_ne (Or.inl (hw _ (List.mem_of_getElem? (i := 29) rfl))) (Or.inl (hw _ (List.mem_of_getElem? (i := 26) rfl))) (by decide) (t := (.array (.object "java/lang/Object"))) (by decide) (t' := .int) (by decide)))
  replace Fs := Fs.other W_1 (Or.inr (slot_ne (Or.inl (hw _ (List.mem_of_getElem? (i := 64) rfl))) (Or.inl (hw _ (List.mem_of_getElem? (i := 26) rfl))) (by decide) (t := .int) (by decide) (t' := .int) (by decide)))
  replace E := E.keep K_2
  replace Ey := Ey.keep K_2
  replace Ae := Ae.keep K_2 (ninS (Ne.symm nae) nin0)
  replace Oe := Oe.keep K_2
  refine Road.aloadN 10 bAdd2_d10 rfl ?_
  refine Road.aloadN 11 bAdd2_d11 rfl ?_
  refine Road.aloadN 12 bAdd2_d12 rfl ?_
  refine Road.getfield 13 bAdd2_d13 (hw _ (List.mem_of_getElem? (i := 28) rfl)) Via.refl Fe ?_
  refine Road.aloadN 16 bAdd2_d16 rfl ?_
  refine Road.getfield 17 bAdd2_d17 (hw _ (List.mem_of_getElem? (i := 63) rfl)) Via.refl Fs ?_
  refine Road.callP (B' := bAd3_2) (a := a) 20 (argsL := [(.ref y), (.ref e), (.int (1 : Int32))]) (rest := []) "java/util/ArrayList" 0 bAdd2_d20 (hw _ (List.mem_of_getElem? (i := 159) rfl)) (hw _ (List.mem_of_getElem? (i := 161) rfl)) (hw _ (List.mem_of_getElem? (i := 162) rfl)) (hw _ (List.mem_of_getElem? (i := 160) rfl)) (hw _ (List.mem_of_getElem? (i := 6) rfl)) (hw _ (List.mem_of_getElem? (i := 163) rfl)) (by decide) E (cAd3_2 l Z a0 hw n0 hEW a e y0 y (mc + 1) h_3 σ E Fm Fe Fs Ey sa se nae Ae Oe) (lenOf bAd3_2_pd rfl) rfl rfl rfl (by decide) (by decide) (ce' := 0) (sl' := 0) rfl rfl (by decide) (by decide) ?_
  rintro _ h_4 σ_5 m_6 ⟨rfl, K_7, Fm, Fe, Fs, Ae⟩
  replace sa := m_6 _ sa
  replace se := m_6 _ se
  refine Road.iconst 23 (1 : Int32) bAdd2_d23 rfl ?_
  exact Road.iret 24 1 bAdd2_d24 (t := .boolean) rfl (by simp) rfl (by decide) (by decide) (fun σ' m => ⟨rfl, Keep.trans (ws := [a, e]) (Road.keep1 K_2) K_7 (by simp), Fm, Fe, Fs, Ae⟩)
def bAbI : Road.Bdy := (⟨"java/lang/AbstractStringBuilder", "<init>", "(I)V"⟩, jdk_68_method_2_code, 2, none, { frames := 1, cells := 1, slots := 16, locals := 14 })
theorem bAbI_d0 : decode bAbI.bs 0 = .ok (.aload_n 0, 1) := by decide +kernel
theorem bAbI_d1 : decode bAbI.bs 1 = .ok (.invokespecial 3, 3) := by decide +kernel
theorem bAbI_d4 : decode bAbI.bs 4 = .ok (.getstatic 18, 3) := by decide +kernel
theorem bAbI_d7 : decode bAbI.bs 7 = .ok (.ifCond .eq 18, 3) := by decide +kernel
theorem bAbI_d10 : decode bAbI.bs 10 = .ok (.aload_n 0, 1) := by decide +kernel
theorem bAbI_d11 : decode bAbI.bs 11 = .ok (.iload_n 1, 1) := by decide +kernel
theorem bAbI_d12 : decode bAbI.bs 12 = .ok (.newarray .byte, 2) := by decide +kernel
theorem bAbI_d14 : decode bAbI.bs 14 = .ok (.putfield 15, 3) := by decide +kernel
theorem bAbI_d17 : decode bAbI.bs 17 = .ok (.aload_n 0, 1) := by decide +kernel
theorem bAbI_d18 : decode bAbI.bs 18 = .ok (.iconst 0, 1) := by decide +kernel
theorem bAbI_d19 : decode bAbI.bs 19 = .ok (.putfield 22, 3) := by decide +kernel
theorem bAbI_d22 : decode bAbI.bs 22 = .ok (.goto 16, 3) := by decide +kernel
theorem bAbI_d25 : decode bAbI.bs 25 = .ok (.aload_n 0, 1) := by decide +kernel
theorem bAbI_d26 : decode bAbI.bs 26 = .ok (.iload_n 1, 1) := by decide +kernel
theorem bAbI_d27 : decode bAbI.bs 27 = .ok (.invokestatic 26, 3) := by decide +kernel
theorem bAbI_d30 : decode bAbI.bs 30 = .ok (.putfield 15, 3) := by decide +kernel
theorem bAbI_d33 : decode bAbI.bs 33 = .ok (.aload_n 0, 1) := by decide +kernel
theorem bAbI_d34 : decode bAbI.bs 34 = .ok (.iconst 1, 1) := by decide +kernel
theorem bAbI_d35 : decode bAbI.bs 35 = .ok (.putfield 22, 3) := by decide +kernel
theorem bAbI_d38 : decode bAbI.bs 38 = .ok (.return_, 1) := by decide +kernel
theorem bAbI_pd : parseMethodDescriptor "(I)V" = some ⟨[.int], none⟩ := by decide +kernel
theorem bAbI_pn : plainFor bAbI.y = true := plainFor_of_name (show plainName "java/lang/AbstractStringBuilder" = true from by first | (simp [plainName, overriddenIn]; done) | decide +kernel)
theorem cAbI (l : Launch) (Z : State) (a0 : Array Value) (hw : ∀ d ∈ tables_1, d.before a0 Z = true) (n0 : Nat) (hEW : EW Z a0 consts_1) (q : Addr) (h0 : Heap) (σ : Addr → Prop) (E : Exa Z h0 q Road.SB) (Fc : Fld Z h0 q Road.AB "coder" "B" (.int 0)) (Fv : Fld Z h0 q Road.AB "value" "[B" .null) (Fn : Fld Z h0 q Road.AB "count" "I" (.int 0)) (sq : σ q) (cp : Int32) (Hc : Sta Z Z.heap Road.SN "COMPACT_STRINGS" "Z" (.int cp)) (hcp : ¬ cp = 0) :
    Road.Con l Z consts_1 n0 false bAbI [] σ #[(.ref q), (.int (16 : Int32))] h0 (fun v h2 s2 => v = none ∧ Keep h0 h2 [q] ∧ ∃ b, Road.Sb Z h2 q b [] 16 ∧ h0.size ≤ b ∧ s2 b ∧ Exa Z h2 b "[B") := by
  refine Road.Con.of bAbI_pn hEW #[.val (.ref q), .val (.int (16 : Int32))] (fun m => Road.ent (Road.laid1 rfl (Road.laid1 rfl Road.laid0)) (k := 0) rfl rfl) ?_
  intro D hD
  refine Road.aloadN 0 bAbI_d0 rfl ?_
  refine Road.initObj 1 bAbI_d1 (hw _ (List.mem_of_getElem? (i := 46) rfl)) (hw _ (List.mem_of_getElem? (i := 23) rfl)) (hw _ (List.mem_of_getElem? (i := 24) rfl)) 0 rfl rfl (by decide) (by decide) ?_
  refine Road.getstatic 4 bAbI_d4 (hw _ (List.mem_of_getElem? (i := 47) rfl)) Via.refl Hc ?_
  refine Road.if_eq 7 25 bAbI_d7 rfl (fun q => absurd q hcp) (fun hc7 => ?_)
  refine Road.aloadN 10 bAbI_d10 rfl ?_
  refine Road.iloadN 11 bAbI_d11 rfl ?_
  refine Road.newarrayE 12 .byte 16 16 "[B" rfl bAbI_d12 rfl (hw _ (List.mem_of_getElem? (i := 49) rfl)) (by decide) (by decide) (by decide) (ce' := 1) (sl' := 16) rfl rfl (by decide) (by decide) ?_
  intro b h_1 σ_2 g_3 K_4 lt_5 m_6 s_7 Ab EB
  have ne_q_b : q ≠ b := Nat.ne_of_lt (Nat.lt_of_lt_of_le E.lt (Nat.le_of_eq g_3.symm))
  replace E := E.keep K_4
  replace Fc := Fc.keep K_4 nin0
  replace Fv := Fv.keep K_4 nin0
  replace Fn := Fn.keep K_4 nin0
  replace sq := m_6 _ sq
  refine Road.putfield 14 bAbI_d14 (hw _ (List.mem_of_getElem? (i := 50) rfl)) Via.refl Fv E (Or.inl (hw _ (List.mem_of_getElem? (i := 51) rfl))) (hw _ (List.mem_of_getElem? (i := 35) rfl)) (ty := (.array .byte)) (by decide) rfl rfl sq ?_
  intro h_10 W_8 K_9
  replace Fv := Fv.same W_8
  replace Fc := Fc.other W_8 (Or.inr (slot_ne (Or.inl (hw _ (List.mem_of_getElem? (i := 53) rfl))) (Or.inl (hw _ (List.mem_of_getElem? (i := 51) rfl))) (by decide) (t := .byte) (by decide) (t' := (.array .byte)) (by decide)))
  replace Fn := Fn.other W_8 (Or.inr (slot_ne (Or.inl (hw _ (List.mem_of_getElem? (i := 95) rfl))) (Or.inl (hw _ (List.mem_of_getElem? (i := 51) rfl))) (by decide) (t := .int) (by decide) (t' := (.array .byte)) (by decide)))
  replace E := E.keep K_9
  replace Ab := Ab.keep K_9 (ninS (Ne.symm ne_q_b) nin0)
  replace EB := EB.keep K_9
  refine Road.aloadN 17 bAbI_d17 rfl ?_
  refine Road.iconst 18 (0 : Int32) bAbI_d18 rfl ?_
  refine Road.putfield 19 bAbI_d19 (hw _ (List.mem_of_getElem? (i := 52) rfl)) Via.refl Fc E (Or.inl (hw _ (List.mem_of_getElem? (i := 53) rfl))) (hw _ (List.mem_of_getElem? (i := 35) rfl)) (ty := .byte) (by decide) rfl rfl sq ?_
  intro h_13 W_11 K_12
  replace Fc := Fc.same W_11
  replace Fv := Fv.other W_11 (Or.inr (slot_ne (Or.inl (hw _ (List.mem_of_getElem? (i := 51) rfl))) (Or.inl (hw _ (List.mem_of_getElem? (i := 53) rfl))) (by decide) (t := (.array .byte)) (by decide) (t' := .byte) (by decide)))
  replace Fn := Fn.other W_11 (Or.inr (slot_ne (Or.inl (hw _ (List.mem_of_getElem? (i := 95) rfl))) (Or.inl (hw _ (List.mem_of_getElem? (i := 53) rfl))) (by decide) (t := .int) (by decide) (t' := .byte) (by decide)))
  replace E := E.keep K_12
  replace Ab := Ab.keep K_12 (ninS (Ne.symm ne_q_b) nin0)
  replace EB := EB.keep K_12
  refine Road.goto 22 38 bAbI_d22 rfl ?_
  exact Road.ret 38 bAbI_d38 rfl (by decide) (by decide) (fun σ' m => ⟨rfl, ((Road.keep_more K_4).trans K_9 (by simp)).trans K_12 (by simp), b, ⟨E, Fc, Fv, Fn, ⟨_, Ab, rfl⟩, by simp⟩, Nat.le_of_eq g_3.symm, m _ s_7, EB⟩)
def bSbI : Road.Bdy := (⟨"java/lang/StringBuilder", "<init>", "()V"⟩, jdk_67_method_1_code, 1, none, { frames := 2, cells := 1, slots := 16, locals := 27 })
theorem bSbI_d0 : decode bSbI.bs 0 = .ok (.aload_n 0, 1) := by decide +kernel
theorem bSbI_d1 : decode bSbI.bs 1 = .ok (.bipush 16, 2) := by decide +kernel
theorem bSbI_d3 : decode bSbI.bs 3 = .ok (.invokespecial 1, 3) := by decide +kernel
theorem bSbI_d6 : decode bSbI.bs 6 = .ok (.return_, 1) := by decide +kernel
theorem bSbI_pd : parseMethodDescriptor "()V" = some ⟨[], none⟩ := by decide +kernel
theorem bSbI_pn : plainFor bSbI.y = true := plainFor_of_name (show plainName "java/lang/StringBuilder" = true from by first | (simp [plainName, overriddenIn]; done) | decide +kernel)
theorem cSbI (l : Launch) (Z : State) (a0 : Array Value) (hw : ∀ d ∈ tables_1, d.before a0 Z = true) (n0 : Nat) (hEW : EW Z a0 consts_1) (q : Addr) (h0 : Heap) (σ : Addr → Prop) (E : Exa Z h0 q Road.SB) (Fc : Fld Z h0 q Road.AB "coder" "B" (.int 0)) (Fv : Fld Z h0 q Road.AB "value" "[B" .null) (Fn : Fld Z h0 q Road.AB "count" "I" (.int 0)) (sq : σ q) (cp : Int32) (Hc : Sta Z Z.heap Road.SN "COMPACT_STRINGS" "Z" (.int cp)) (hcp : ¬ cp = 0) :
    Road.Con l Z consts_1 n0 false bSbI [] σ #[(.ref q)] h0 (fun v h2 s2 => v = none ∧ Keep h0 h2 [q] ∧ ∃ b, Road.Sb Z h2 q b [] 16 ∧ h0.size ≤ b ∧ s2 b ∧ Exa Z h2 b "[B") := by
  refine Road.Con.of bSbI_pn hEW #[.val (.ref q)] (fun m => Road.ent (Road.laid1 rfl Road.laid0) (k := 0) rfl rfl) ?_
  intro D hD
  refine Road.aloadN 0 bSbI_d0 rfl ?_
  refine Road.bipush 1 (16 : Int32) bSbI_d1 rfl ?_
  refine Road.callI (B' := bAbI) (a := q) 3 (argsL := [(.int (16 : Int32))]) (rest := []) 0 bSbI_d3 (hw _ (List.mem_of_getElem? (i := 40) rfl)) (hw _ (List.mem_of_getElem? (i := 41) rfl)) (hw _ (List.mem_of_getElem? (i := 44) rfl)) (hw _ (List.mem_of_getElem? (i := 45) rfl)) rfl rfl (by decide) (cAbI l Z a0 hw n0 hEW q h0 σ E Fc Fv Fn sq cp Hc hcp) (lenOf bAbI_pd rfl) rfl rfl rfl (by decide) (by decide) (ce' := 1) (sl' := 16) rfl rfl (by decide) (by decide) ?_
  rintro _ h_1 σ_2 m_3 ⟨rfl, K_4, b, S, gb, sb, EB⟩
  exact Road.ret 6 bSbI_d6 rfl (by decide) (by decide) (fun σ' m => ⟨rfl, K_4, b, S, gb, m _ sb, EB⟩)
def bEn0 : Road.Bdy := (⟨"java/lang/AbstractStringBuilder", "ensureCapacityInternal", "(I)V"⟩, jdk_68_method_9_code, 3, none, { frames := 0, cells := 0, slots := 0, locals := 0 })
theorem bEn0_d0 : decode bEn0.bs 0 = .ok (.aload_n 0, 1) := by decide +kernel
theorem bEn0_d1 : decode bEn0.bs 1 = .ok (.getfield 15, 3) := by decide +kernel
theorem bEn0_d4 : decode bEn0.bs 4 = .ok (.arraylength, 1) := by decide +kernel
theorem bEn0_d5 : decode bEn0.bs 5 = .ok (.aload_n 0, 1) := by decide +kernel
theorem bEn0_d6 : decode bEn0.bs 6 = .ok (.getfield 22, 3) := by decide +kernel
theorem bEn0_d9 : decode bEn0.bs 9 = .ok (.ishr, 1) := by decide +kernel
theorem bEn0_d10 : decode bEn0.bs 10 = .ok (.istore_n 2, 1) := by decide +kernel
theorem bEn0_d11 : decode bEn0.bs 11 = .ok (.iload_n 1, 1) := by decide +kernel
theorem bEn0_d12 : decode bEn0.bs 12 = .ok (.iload_n 2, 1) := by decide +kernel
theorem bEn0_d13 : decode bEn0.bs 13 = .ok (.isub, 1) := by decide +kernel
theorem bEn0_d14 : decode bEn0.bs 14 = .ok (.ifCond .le 24, 3) := by decide +kernel
theorem bEn0_d17 : decode bEn0.bs 17 = .ok (.aload_n 0, 1) := by decide +kernel
theorem bEn0_d18 : decode bEn0.bs 18 = .ok (.aload_n 0, 1) := by decide +kernel
theorem bEn0_d19 : decode bEn0.bs 19 = .ok (.getfield 15, 3) := by decide +kernel
theorem bEn0_d22 : decode bEn0.bs 22 = .ok (.aload_n 0, 1) := by decide +kernel
theorem bEn0_d23 : decode bEn0.bs 23 = .ok (.iload_n 1, 1) := by decide +kernel
theorem bEn0_d24 : decode bEn0.bs 24 = .ok (.invokevirtual 104, 3) := by decide +kernel
theorem bEn0_d27 : decode bEn0.bs 27 = .ok (.aload_n 0, 1) := by decide +kernel
theorem bEn0_d28 : decode bEn0.bs 28 = .ok (.getfield 22, 3) := by decide +kernel
theorem bEn0_d31 : decode bEn0.bs 31 = .ok (.ishl, 1) := by decide +kernel
theorem bEn0_d32 : decode bEn0.bs 32 = .ok (.invokestatic 108, 3) := by decide +kernel
theorem bEn0_d35 : decode bEn0.bs 35 = .ok (.putfield 15, 3) := by decide +kernel
theorem bEn0_d38 : decode bEn0.bs 38 = .ok (.return_, 1) := by decide +kernel
theorem bEn0_pd : parseMethodDescriptor "(I)V" = some ⟨[.int], none⟩ := by decide +kernel
theorem bEn0_pn : plainFor bEn0.y = true := plainFor_of_name (show plainName "java/lang/AbstractStringBuilder" = true from by first | (simp [plainName, overriddenIn]; done) | decide +kernel)
theorem cEn0 (l : Launch) (Z : State) (a0 : Array Value) (hw : ∀ d ∈ tables_1, d.before a0 Z = true) (n0 : Nat) (hEW : EW Z a0 consts_1) (q b : Addr) (cs : List Int32) (N : Nat) (m : Nat) (h0 : Heap) (σ : Addr → Prop) (S : Road.Sb Z h0 q b cs N) (hm : m ≤ N) :
    Road.Con l Z consts_1 n0 false bEn0 [] σ #[(.ref q), (.int (Nat.toInt32 m))] h0 (fun v h2 _ => v = none ∧ h0 = h2) := by
  have hN := S.small
  have hle := S.le
  obtain ⟨E, Fc, Fv, Fn, ⟨r, Ab, hr⟩, hlt⟩ := S
  refine Road.Con.of bEn0_pn hEW #[.val (.ref q), .val (.int (Nat.toInt32 m)), .unset] (fun m => Road.ent (Road.laid1 rfl (Road.laid1 rfl Road.laid0)) (k := 1) rfl rfl) ?_
  intro D hD
  refine Road.aloadN 0 bEn0_d0 rfl ?_
  refine Road.getfield 1 bEn0_d1 (hw _ (List.mem_of_getElem? (i := 50) rfl)) Via.refl Fv ?_
  refine Road.alen 4 (Nat.toInt32 N) bEn0_d4 Ab (n := N) (by rw [List.length_append, List.length_map]; exact hr) rfl ?_
  refine Road.aloadN 5 bEn0_d5 rfl ?_
  refine Road.getfield 6 bEn0_d6 (hw _ (List.mem_of_getElem? (i := 52) rfl)) Via.refl Fc ?_
  refine Road.ishr 9 bEn0_d9 ?_
  refine Road.nameI ?_
  intro z_1 hz_1
  obtain rfl : z_1 = (Nat.toInt32 N) := by rw [hz_1]; exact Road.shr0 _
  refine Road.istoreN 10 #[.val (.ref q), .val (.int (Nat.toInt32 m)), .val (.int (Nat.toInt32 N))] bEn0_d10 rfl ?_
  refine Road.iloadN 11 bEn0_d11 rfl ?_
  refine Road.iloadN 12 bEn0_d12 rfl ?_
  refine Road.isub 13 bEn0_d13 ?_
  refine Road.if_le 14 38 bEn0_d14 rfl (fun hc14 => ?_) (fun q => absurd q (by rw [Road.gsub (by omega) hN]; omega))
  exact Road.ret 38 bEn0_d38 rfl (by decide) (by decide) (fun σ' m => ⟨rfl, rfl⟩)
def bInf : Road.Bdy := (⟨"java/lang/AbstractStringBuilder", "inflateIfNeededFor", "(Ljava/lang/String;)V"⟩, jdk_68_method_71_code, 2, none, { frames := 1, cells := 0, slots := 0, locals := 13 })
theorem bInf_d0 : decode bInf.bs 0 = .ok (.getstatic 18, 3) := by decide +kernel
theorem bInf_d3 : decode bInf.bs 3 = .ok (.ifCond .eq 18, 3) := by decide +kernel
theorem bInf_d6 : decode bInf.bs 6 = .ok (.aload_n 0, 1) := by decide +kernel
theorem bInf_d7 : decode bInf.bs 7 = .ok (.getfield 22, 3) := by decide +kernel
theorem bInf_d10 : decode bInf.bs 10 = .ok (.aload_n 1, 1) := by decide +kernel
theorem bInf_d11 : decode bInf.bs 11 = .ok (.invokevirtual 40, 3) := by decide +kernel
theorem bInf_d14 : decode bInf.bs 14 = .ok (.if_icmp .eq 7, 3) := by decide +kernel
theorem bInf_d17 : decode bInf.bs 17 = .ok (.aload_n 0, 1) := by decide +kernel
theorem bInf_d18 : decode bInf.bs 18 = .ok (.invokevirtual 195, 3) := by decide +kernel
theorem bInf_d21 : decode bInf.bs 21 = .ok (.return_, 1) := by decide +kernel
theorem bInf_pd : parseMethodDescriptor "(Ljava/lang/String;)V" = some ⟨[(.object "java/lang/String")], none⟩ := by decide +kernel
theorem bInf_pn : plainFor bInf.y = true := plainFor_of_name (show plainName "java/lang/AbstractStringBuilder" = true from by first | (simp [plainName, overriddenIn]; done) | decide +kernel)
theorem cInf (l : Launch) (Z : State) (a0 : Array Value) (hw : ∀ d ∈ tables_1, d.before a0 Z = true) (n0 : Nat) (hEW : EW Z a0 consts_1) (q s sb : Addr) (ds : List Int32) (h0 : Heap) (σ : Addr → Prop) (Fc : Fld Z h0 q Road.AB "coder" "B" (.int 0)) (T : Road.Str Z h0 s sb ds) (cp : Int32) (Hc : Sta Z Z.heap Road.SN "COMPACT_STRINGS" "Z" (.int cp)) (hcp : ¬ cp = 0) :
    Road.Con l Z consts_1 n0 false bInf [] σ #[(.ref q), (.ref s)] h0 (fun v h2 _ => v = none ∧ h0 = h2) := by
  refine Road.Con.of bInf_pn hEW #[.val (.ref q), .val (.ref s)] (fun m => Road.ent (Road.laid1 rfl (Road.laid1 rfl Road.laid0)) (k := 0) rfl rfl) ?_
  intro D hD
  refine Road.getstatic 0 bInf_d0 (hw _ (List.mem_of_getElem? (i := 47) rfl)) Via.refl Hc ?_
  refine Road.if_eq 3 21 bInf_d3 rfl (fun q => absurd q hcp) (fun hc3 => ?_)
  refine Road.aloadN 6 bInf_d6 rfl ?_
  refine Road.getfield 7 bInf_d7 (hw _ (List.mem_of_getElem? (i := 52) rfl)) Via.refl Fc ?_
  refine Road.aloadN 10 bInf_d10 rfl ?_
  refine Road.callV (B' := bCod) (a := s) 11 (argsL := []) (rest := [(.int (0 : Int32))]) "java/lang/String" 1 bInf_d11 (hw _ (List.mem_of_getElem? (i := 212) rfl)) (hw _ (List.mem_of_getElem? (i := 130) rfl)) (fun vm hz => Road.notFace_sib (args := #[]) (mv (s := D.s.setVm vm) hz (hw _ (List.mem_of_getElem? (i := 127) rfl))) rfl) (hw _ (List.mem_of_getElem? (i := 132) rfl)) (hw _ (List.mem_of_getElem? (i := 131) rfl)) (hw _ (List.mem_of_getElem? (i := 48) rfl)) (hw _ (List.mem_of_getElem? (i := 133) rfl)) (by decide) T.1 (cCod l Z a0 hw n0 hEW s h0 σ T.2.1 cp Hc hcp) (lenOf bCod_pd rfl) rfl rfl rfl (by decide) (by decide) (ce' := 0) (sl' := 0) rfl rfl (by decide) (by decide) ?_
  rintro _ h_1 σ_2 m_3 ⟨rfl, rfl⟩
  refine Road.Go.weaken (σ' := σ) m_3 (Nat.le_refl _) (Nat.le_refl _) ?_
  refine Road.icmp_eq 14 21 bInf_d14 rfl (fun hc14 => ?_) (fun q => absurd q (by decide))
  exact Road.ret 21 bInf_d21 rfl (by decide) (by decide) (fun σ' m => ⟨rfl, rfl⟩)
def bGeB : Road.Bdy := (⟨"java/lang/String", "getBytes", "([BIB)V"⟩, jdk_42_method_147_code, 4, none, { frames := 1, cells := 0, slots := 0, locals := 18 })
theorem bGeB_d0 : decode bGeB.bs 0 = .ok (.aload_n 0, 1) := by decide +kernel
theorem bGeB_d1 : decode bGeB.bs 1 = .ok (.invokevirtual 335, 3) := by decide +kernel
theorem bGeB_d4 : decode bGeB.bs 4 = .ok (.iload_n 3, 1) := by decide +kernel
theorem bGeB_d5 : decode bGeB.bs 5 = .ok (.if_icmp .ne 23, 3) := by decide +kernel
theorem bGeB_d8 : decode bGeB.bs 8 = .ok (.aload_n 0, 1) := by decide +kernel
theorem bGeB_d9 : decode bGeB.bs 9 = .ok (.getfield 9, 3) := by decide +kernel
theorem bGeB_d12 : decode bGeB.bs 12 = .ok (.iconst 0, 1) := by decide +kernel
theorem bGeB_d13 : decode bGeB.bs 13 = .ok (.aload_n 1, 1) := by decide +kernel
theorem bGeB_d14 : decode bGeB.bs 14 = .ok (.iload_n 2, 1) := by decide +kernel
theorem bGeB_d15 : decode bGeB.bs 15 = .ok (.iload_n 3, 1) := by decide +kernel
theorem bGeB_d16 : decode bGeB.bs 16 = .ok (.ishl, 1) := by decide +kernel
theorem bGeB_d17 : decode bGeB.bs 17 = .ok (.aload_n 0, 1) := by decide +kernel
theorem bGeB_d18 : decode bGeB.bs 18 = .ok (.getfield 9, 3) := by decide +kernel
theorem bGeB_d21 : decode bGeB.bs 21 = .ok (.arraylength, 1) := by decide +kernel
theorem bGeB_d22 : decode bGeB.bs 22 = .ok (.invokestatic 212, 3) := by decide +kernel
theorem bGeB_d25 : decode bGeB.bs 25 = .ok (.goto 18, 3) := by decide +kernel
theorem bGeB_d28 : decode bGeB.bs 28 = .ok (.aload_n 0, 1) := by decide +kernel
theorem bGeB_d29 : decode bGeB.bs 29 = .ok (.getfield 9, 3) := by decide +kernel
theorem bGeB_d32 : decode bGeB.bs 32 = .ok (.iconst 0, 1) := by decide +kernel
theorem bGeB_d33 : decode bGeB.bs 33 = .ok (.aload_n 1, 1) := by decide +kernel
theorem bGeB_d34 : decode bGeB.bs 34 = .ok (.iload_n 2, 1) := by decide +kernel
theorem bGeB_d35 : decode bGeB.bs 35 = .ok (.aload_n 0, 1) := by decide +kernel
theorem bGeB_d36 : decode bGeB.bs 36 = .ok (.getfield 9, 3) := by decide +kernel
theorem bGeB_d39 : decode bGeB.bs 39 = .ok (.arraylength, 1) := by decide +kernel
theorem bGeB_d40 : decode bGeB.bs 40 = .ok (.invokestatic 106, 3) := by decide +kernel
theorem bGeB_d43 : decode bGeB.bs 43 = .ok (.return_, 1) := by decide +kernel
theorem bGeB_pd : parseMethodDescriptor "([BIB)V" = some ⟨[(.array .byte), .int, .byte], none⟩ := by decide +kernel
theorem bGeB_pn : plainFor bGeB.y = true := plainFor_of_name (show plainName "java/lang/String" = true from by first | (simp [plainName, overriddenIn]; done) | decide +kernel)
theorem cGeB (l : Launch) (Z : State) (a0 : Array Value) (hw : ∀ d ∈ tables_1, d.before a0 Z = true) (n0 : Nat) (hEW : EW Z a0 consts_1) (s sb d : Addr) (ds : List Int32) (vd : List Value) (i : Nat) (h0 : Heap) (σ : Addr → Prop) (T : Road.Str Z h0 s sb ds) (Ad : Road.Ary Z h0 d .byte vd) (hi : i + ds.length ≤ vd.length) (sd : σ d) (cp : Int32) (Hc : Sta Z Z.heap Road.SN "COMPACT_STRINGS" "Z" (.int cp)) (hcp : ¬ cp = 0) :
    Road.Con l Z consts_1 n0 false bGeB [] σ #[(.ref s), (.ref d), (.int (Nat.toInt32 i)), (.int (0 : Int32))] h0 (fun v h2 _ => v = none ∧ Keep h0 h2 [d] ∧ Road.Ary Z h2 d .byte (vd.take i ++ ((ds.map Road.byt).drop 0).take ds.length ++ vd.drop (i + ds.length))) := by
  have hsm := Ad.small
  refine Road.Con.of bGeB_pn hEW #[.val (.ref s), .val (.ref d), .val (.int (Nat.toInt32 i)), .val (.int (0 : Int32))] (fun m => Road.ent (Road.laid1 rfl (Road.laid1 rfl (Road.laid1 rfl (Road.laid1 rfl Road.laid0)))) (k := 0) rfl rfl) ?_
  intro D hD
  refine Road.aloadN 0 bGeB_d0 rfl ?_
  refine Road.callV (B' := bCod) (a := s) 1 (argsL := []) (rest := []) "java/lang/String" 0 bGeB_d1 (hw _ (List.mem_of_getElem? (i := 129) rfl)) (hw _ (List.mem_of_getElem? (i := 130) rfl)) (fun vm hz => Road.notFace_sib (args := #[]) (mv (s := D.s.setVm vm) hz (hw _ (List.mem_of_getElem? (i := 127) rfl))) rfl) (hw _ (List.mem_of_getElem? (i := 132) rfl)) (hw _ (List.mem_of_getElem? (i := 131) rfl)) (hw _ (List.mem_of_getElem? (i := 48) rfl)) (hw _ (List.mem_of_getElem? (i := 133) rfl)) (by decide) T.1 (cCod l Z a0 hw n0 hEW s h0 σ T.2.1 cp Hc hcp) (lenOf bCod_pd rfl) rfl rfl rfl (by decide) (by decide) (ce' := 0) (sl' := 0) rfl rfl (by decide) (by decide) ?_
  rintro _ h_1 σ_2 m_3 ⟨rfl, rfl⟩
  refine Road.Go.weaken (σ' := σ) m_3 (Nat.le_refl _) (Nat.le_refl _) ?_
  refine Road.iloadN 4 bGeB_d4 rfl ?_
  refine Road.icmp_ne 5 28 bGeB_d5 rfl (fun q => absurd q (by decide)) (fun hc5 => ?_)
  refine Road.aloadN 8 bGeB_d8 rfl ?_
  refine Road.getfield 9 bGeB_d9 (hw _ (List.mem_of_getElem? (i := 121) rfl)) Via.refl T.2.2.1 ?_
  refine Road.iconst 12 (0 : Int32) bGeB_d12 rfl ?_
  refine Road.aloadN 13 bGeB_d13 rfl ?_
  refine Road.iloadN 14 bGeB_d14 rfl ?_
  refine Road.iloadN 15 bGeB_d15 rfl ?_
  refine Road.ishl 16 bGeB_d16 ?_
  refine Road.nameI ?_
  intro z_5 hz_5
  obtain rfl : z_5 = (Nat.toInt32 i) := by rw [hz_5]; exact Road.shl0 _
  refine Road.aloadN 17 bGeB_d17 rfl ?_
  refine Road.getfield 18 bGeB_d18 (hw _ (List.mem_of_getElem? (i := 121) rfl)) Via.refl T.2.2.1 ?_
  refine Road.alen 21 (Nat.toInt32 ds.length) bGeB_d21 T.2.2.2.1 (n := ds.length) (List.length_map _) rfl ?_
  refine Road.acopy 22 0 i ds.length 0 bGeB_d22 (hw _ (List.mem_of_getElem? (i := 218) rfl)) (hw _ (List.mem_of_getElem? (i := 120) rfl)) (hw _ (List.mem_of_getElem? (i := 118) rfl)) (hw _ (List.mem_of_getElem? (i := 119) rfl)) T.2.2.2.1 Ad rfl rfl (Road.n32 (by omega)) (Road.n32 (by omega)) (by rw [List.length_map]; omega) hi sd rfl rfl (by decide) (by decide) ?_
  intro h_6 K_7 Ae
  refine Road.goto 25 43 bGeB_d25 rfl ?_
  exact Road.ret 43 bGeB_d43 rfl (by decide) (by decide) (fun σ' m => ⟨rfl, K_7, Ae⟩)
def bPut : Road.Bdy := (⟨"java/lang/AbstractStringBuilder", "putStringAt", "(ILjava/lang/String;)V"⟩, jdk_68_method_73_code, 3, none, { frames := 2, cells := 0, slots := 0, locals := 33 })
theorem bPut_d0 : decode bPut.bs 0 = .ok (.aload_n 0, 1) := by decide +kernel
theorem bPut_d1 : decode bPut.bs 1 = .ok (.aload_n 2, 1) := by decide +kernel
theorem bPut_d2 : decode bPut.bs 2 = .ok (.invokevirtual 397, 3) := by decide +kernel
theorem bPut_d5 : decode bPut.bs 5 = .ok (.aload_n 2, 1) := by decide +kernel
theorem bPut_d6 : decode bPut.bs 6 = .ok (.aload_n 0, 1) := by decide +kernel
theorem bPut_d7 : decode bPut.bs 7 = .ok (.getfield 15, 3) := by decide +kernel
theorem bPut_d10 : decode bPut.bs 10 = .ok (.iload_n 1, 1) := by decide +kernel
theorem bPut_d11 : decode bPut.bs 11 = .ok (.aload_n 0, 1) := by decide +kernel
theorem bPut_d12 : decode bPut.bs 12 = .ok (.getfield 22, 3) := by decide +kernel
theorem bPut_d15 : decode bPut.bs 15 = .ok (.invokevirtual 399, 3) := by decide +kernel
theorem bPut_d18 : decode bPut.bs 18 = .ok (.return_, 1) := by decide +kernel
theorem bPut_pd : parseMethodDescriptor "(ILjava/lang/String;)V" = some ⟨[.int, (.object "java/lang/String")], none⟩ := by decide +kernel
theorem bPut_pn : plainFor bPut.y = true := plainFor_of_name (show plainName "java/lang/AbstractStringBuilder" = true from by first | (simp [plainName, overriddenIn]; done) | decide +kernel)
theorem cPut (l : Launch) (Z : State) (a0 : Array Value) (hw : ∀ d ∈ tables_1, d.before a0 Z = true) (n0 : Nat) (hEW : EW Z a0 consts_1) (q b : Addr) (cs : List Int32) (N : Nat) (s sb : Addr) (ds : List Int32) (h0 : Heap) (σ : Addr → Prop) (S : Road.Sb Z h0 q b cs N) (T : Road.Str Z h0 s sb ds) (hm : cs.length + ds.length ≤ N) (sb_ : σ b) (cp : Int32) (Hc : Sta Z Z.heap Road.SN "COMPACT_STRINGS" "Z" (.int cp)) (hcp : ¬ cp = 0) :
    Road.Con l Z consts_1 n0 false bPut [] σ #[(.ref q), (.int (Nat.toInt32 cs.length)), (.ref s)] h0 (fun v h2 _ => v = none ∧ Keep h0 h2 [b] ∧ ∃ r, Road.Ary Z h2 b .byte ((cs ++ ds).map Road.byt ++ r) ∧ (cs ++ ds).length + r.length = N) := by
  have hN := S.small
  have hle := S.le
  obtain ⟨E, Fc, Fv, Fn, ⟨r, Ab, hr⟩, hlt⟩ := S
  refine Road.Con.of bPut_pn hEW #[.val (.ref q), .val (.int (Nat.toInt32 cs.length)), .val (.ref s)] (fun m => Road.ent (Road.laid1 rfl (Road.laid1 rfl (Road.laid1 rfl Road.laid0))) (k := 0) rfl rfl) ?_
  intro D hD
  refine Road.aloadN 0 bPut_d0 rfl ?_
  refine Road.aloadN 1 bPut_d1 rfl ?_
  refine Road.callP (B' := bInf) (a := q) 2 (argsL := [(.ref s)]) (rest := []) "java/lang/StringBuilder" 0 bPut_d2 (hw _ (List.mem_of_getElem? (i := 207) rfl)) (hw _ (List.mem_of_getElem? (i := 209) rfl)) (hw _ (List.mem_of_getElem? (i := 210) rfl)) (hw _ (List.mem_of_getElem? (i := 208) rfl)) (hw _ (List.mem_of_getElem? (i := 44) rfl)) (hw _ (List.mem_of_getElem? (i := 211) rfl)) (by decide) E (cInf l Z a0 hw n0 hEW q s sb ds h0 σ Fc T cp Hc hcp) (lenOf bInf_pd rfl) rfl rfl rfl (by decide) (by decide) (ce' := 0) (sl' := 0) rfl rfl (by decide) (by decide) ?_
  rintro _ h_1 σ_2 m_3 ⟨rfl, rfl⟩
  refine Road.Go.weaken (σ' := σ) m_3 (Nat.le_refl _) (Nat.le_refl _) ?_
  refine Road.aloadN 5 bPut_d5 rfl ?_
  refine Road.aloadN 6 bPut_d6 rfl ?_
  refine Road.getfield 7 bPut_d7 (hw _ (List.mem_of_getElem? (i := 50) rfl)) Via.refl Fv ?_
  refine Road.iloadN 10 bPut_d10 rfl ?_
  refine Road.aloadN 11 bPut_d11 rfl ?_
  refine Road.getfield 12 bPut_d12 (hw _ (List.mem_of_getElem? (i := 52) rfl)) Via.refl Fc ?_
  refine Road.callV (B' := bGeB) (a := s) 15 (argsL := [(.ref b), (.int (Nat.toInt32 cs.length)), (.int (0 : Int32))]) (rest := []) "java/lang/String" 0 bPut_d15 (hw _ (List.mem_of_getElem? (i := 213) rfl)) (hw _ (List.mem_of_getElem? (i := 214) rfl)) (fun vm hz => Road.notFace_sib (args := #[]) (mv (s := D.s.setVm vm) hz (hw _ (List.mem_of_getElem? (i := 127) rfl))) rfl) (hw _ (List.mem_of_getElem? (i := 216) rfl)) (hw _ (List.mem_of_getElem? (i := 215) rfl)) (hw _ (List.mem_of_getElem? (i := 48) rfl)) (hw _ (List.mem_of_getElem? (i := 217) rfl)) (by decide) T.1 (cGeB l Z a0 hw n0 hEW s sb b ds _ cs.length h0 σ T Ab (by rw [List.length_append, List.length_map]; omega) sb_ cp Hc hcp) (lenOf bGeB_pd rfl) rfl rfl rfl (by decide) (by decide) (ce' := 0) (sl' := 0) rfl rfl (by decide) (by decide) ?_
  rintro _ h_5 σ_6 m_7 ⟨rfl, K_8, A2⟩
  rw [Road.put_str _ _ _ (by omega)] at A2
  exact Road.ret 18 bPut_d18 rfl (by decide) (by decide) (fun σ' m => ⟨rfl, K_8, _, A2, by rw [List.length_append, List.length_drop]; omega⟩)
def bAp0 : Road.Bdy := (⟨"java/lang/AbstractStringBuilder", "append", "(Ljava/lang/String;)Ljava/lang/AbstractStringBuilder;"⟩, jdk_68_method_22_code, 3, (some (.object "java/lang/AbstractStringBuilder")), { frames := 3, cells := 0, slots := 0, locals := 48 })
theorem bAp0_d0 : decode bAp0.bs 0 = .ok (.aload_n 1, 1) := by decide +kernel
theorem bAp0_d1 : decode bAp0.bs 1 = .ok (.ifnonnull 8, 3) := by decide +kernel
theorem bAp0_d4 : decode bAp0.bs 4 = .ok (.aload_n 0, 1) := by decide +kernel
theorem bAp0_d5 : decode bAp0.bs 5 = .ok (.invokevirtual 204, 3) := by decide +kernel
theorem bAp0_d8 : decode bAp0.bs 8 = .ok (.areturn, 1) := by decide +kernel
theorem bAp0_d9 : decode bAp0.bs 9 = .ok (.aload_n 1, 1) := by decide +kernel
theorem bAp0_d10 : decode bAp0.bs 10 = .ok (.invokevirtual 32, 3) := by decide +kernel
theorem bAp0_d13 : decode bAp0.bs 13 = .ok (.istore_n 2, 1) := by decide +kernel
theorem bAp0_d14 : decode bAp0.bs 14 = .ok (.aload_n 0, 1) := by decide +kernel
theorem bAp0_d15 : decode bAp0.bs 15 = .ok (.aload_n 0, 1) := by decide +kernel
theorem bAp0_d16 : decode bAp0.bs 16 = .ok (.getfield 79, 3) := by decide +kernel
theorem bAp0_d19 : decode bAp0.bs 19 = .ok (.iload_n 2, 1) := by decide +kernel
theorem bAp0_d20 : decode bAp0.bs 20 = .ok (.iadd, 1) := by decide +kernel
theorem bAp0_d21 : decode bAp0.bs 21 = .ok (.invokevirtual 100, 3) := by decide +kernel
theorem bAp0_d24 : decode bAp0.bs 24 = .ok (.aload_n 0, 1) := by decide +kernel
theorem bAp0_d25 : decode bAp0.bs 25 = .ok (.aload_n 0, 1) := by decide +kernel
theorem bAp0_d26 : decode bAp0.bs 26 = .ok (.getfield 79, 3) := by decide +kernel
theorem bAp0_d29 : decode bAp0.bs 29 = .ok (.aload_n 1, 1) := by decide +kernel
theorem bAp0_d30 : decode bAp0.bs 30 = .ok (.invokevirtual 208, 3) := by decide +kernel
theorem bAp0_d33 : decode bAp0.bs 33 = .ok (.aload_n 0, 1) := by decide +kernel
theorem bAp0_d34 : decode bAp0.bs 34 = .ok (.dup, 1) := by decide +kernel
theorem bAp0_d35 : decode bAp0.bs 35 = .ok (.getfield 79, 3) := by decide +kernel
theorem bAp0_d38 : decode bAp0.bs 38 = .ok (.iload_n 2, 1) := by decide +kernel
theorem bAp0_d39 : decode bAp0.bs 39 = .ok (.iadd, 1) := by decide +kernel
theorem bAp0_d40 : decode bAp0.bs 40 = .ok (.putfield 79, 3) := by decide +kernel
theorem bAp0_d43 : decode bAp0.bs 43 = .ok (.aload_n 0, 1) := by decide +kernel
theorem bAp0_d44 : decode bAp0.bs 44 = .ok (.areturn, 1) := by decide +kernel
theorem bAp0_pd : parseMethodDescriptor "(Ljava/lang/String;)Ljava/lang/AbstractStringBuilder;" = some ⟨[(.object "java/lang/String")], (some (.object "java/lang/AbstractStringBuilder"))⟩ := by decide +kernel
theorem bAp0_pn : plainFor bAp0.y = true := plainFor_of_name (show plainName "java/lang/AbstractStringBuilder" = true from by first | (simp [plainName, overriddenIn]; done) | decide +kernel)
theorem cAp0 (l : Launch) (Z : State) (a0 : Array Value) (hw : ∀ d ∈ tables_1, d.before a0 Z = true) (n0 : Nat) (hEW : EW Z a0 consts_1) (q b : Addr) (cs : List Int32) (N : Nat) (s sb : Addr) (ds : List Int32) (h0 : Heap) (σ : Addr → Prop) (S : Road.Sb Z h0 q b cs N) (T : Road.Str Z h0 s sb ds) (hm : cs.length + ds.length ≤ N) (sb_ : σ b) (sq : σ q) (cp : Int32) (Hc : Sta Z Z.heap Road.SN "COMPACT_STRINGS" "Z" (.int cp)) (hcp : ¬ cp = 0) :
    Road.Con l Z consts_1 n0 false bAp0 [] σ #[(.ref q), (.ref s)] h0 (fun v h2 s2 => v = some (.ref q) ∧ Keep h0 h2 [q, b] ∧ Road.Sb Z h2 q b (cs ++ ds) N) := by
  have S0 := S
  have hN := S.small
  have hle := S.le
  obtain ⟨E, Fc, Fv, Fn, ⟨r, Ab, hr⟩, hlt⟩ := S
  have nqb : q ≠ b := by obtain ⟨c, Ar, -⟩ := Ab; exact ne_arr E (hw _ (List.mem_of_getElem? (i := 35) rfl)) Ar
  refine Road.Con.of bAp0_pn hEW #[.val (.ref q), .val (.ref s), .unset] (fun m => Road.ent (Road.laid1 rfl (Road.laid1 rfl Road.laid0)) (k := 1) rfl rfl) ?_
  intro D hD
  refine Road.aloadN 0 bAp0_d0 rfl ?_
  refine Road.ifnonnull 1 9 rfl bAp0_d1 rfl (fun hc1 => ?_) (fun q => absurd q (by simp))
  refine Road.aloadN 9 bAp0_d9 rfl ?_
  refine Road.callV (B' := bLen) (a := s) 10 (argsL := []) (rest := []) "java/lang/String" 0 bAp0_d10 (hw _ (List.mem_of_getElem? (i := 196) rfl)) (hw _ (List.mem_of_getElem? (i := 125) rfl)) (fun vm hz => Road.notFace_sib (args := #[]) (mv (s := D.s.setVm vm) hz (hw _ (List.mem_of_getElem? (i := 127) rfl))) rfl) (hw _ (List.mem_of_getElem? (i := 127) rfl)) (hw _ (List.mem_of_getElem? (i := 126) rfl)) (hw _ (List.mem_of_getElem? (i := 48) rfl)) (hw _ (List.mem_of_getElem? (i := 128) rfl)) (by decide) T.1 (cLen l Z a0 hw n0 hEW s sb ds h0 σ T cp Hc hcp) (lenOf bLen_pd rfl) rfl rfl rfl (by decide) (by decide) (ce' := 0) (sl' := 0) rfl rfl (by decide) (by decide) ?_
  rintro _ h_1 σ_2 m_3 ⟨rfl, rfl⟩
  refine Road.Go.weaken (σ' := σ) m_3 (Nat.le_refl _) (Nat.le_refl _) ?_
  refine Road.istoreN 13 #[.val (.ref q), .val (.ref s), .val (.int (Nat.toInt32 ds.length))] bAp0_d13 rfl ?_
  refine Road.aloadN 14 bAp0_d14 rfl ?_
  refine Road.aloadN 15 bAp0_d15 rfl ?_
  refine Road.getfield 16 bAp0_d16 (hw _ (List.mem_of_getElem? (i := 94) rfl)) Via.refl Fn ?_
  refine Road.iloadN 19 bAp0_d19 rfl ?_
  refine Road.iadd 20 bAp0_d20 ?_
  refine Road.nameI ?_
  intro z_5 hz_5
  obtain rfl : z_5 = (Nat.toInt32 (cs.length + ds.length)) := by rw [hz_5]; exact Road.add32n _ _
  refine Road.callP (B' := bEn0) (a := q) 21 (argsL := [(.int (Nat.toInt32 (cs.length + ds.length)))]) (rest := []) "java/lang/StringBuilder" 0 bAp0_d21 (hw _ (List.mem_of_getElem? (i := 197) rfl)) (hw _ (List.mem_of_getElem? (i := 199) rfl)) (hw _ (List.mem_of_getElem? (i := 200) rfl)) (hw _ (List.mem_of_getElem? (i := 198) rfl)) (hw _ (List.mem_of_getElem? (i := 44) rfl)) (hw _ (List.mem_of_getElem? (i := 201) rfl)) (by decide) E (cEn0 l Z a0 hw n0 hEW q b cs N (cs.length + ds.length) h0 σ S0 hm) (lenOf bEn0_pd rfl) rfl rfl rfl (by decide) (by decide) (ce' := 0) (sl' := 0) rfl rfl (by decide) (by decide) ?_
  rintro _ h_6 σ_7 m_8 ⟨rfl, rfl⟩
  refine Road.Go.weaken (σ' := σ) m_8 (Nat.le_refl _) (Nat.le_refl _) ?_
  refine Road.aloadN 24 bAp0_d24 rfl ?_
  refine Road.aloadN 25 bAp0_d25 rfl ?_
  refine Road.getfield 26 bAp0_d26 (hw _ (List.mem_of_getElem? (i := 94) rfl)) Via.refl Fn ?_
  refine Road.aloadN 29 bAp0_d29 rfl ?_
  refine Road.callP (B' := bPut) (a := q) 30 (argsL := [(.int (Nat.toInt32 cs.length)), (.ref s)]) (rest := []) "java/lang/StringBuilder" 0 bAp0_d30 (hw _ (List.mem_of_getElem? (i := 202) rfl)) (hw _ (List.mem_of_getElem? (i := 204) rfl)) (hw _ (List.mem_of_getElem? (i := 205) rfl)) (hw _ (List.mem_of_getElem? (i := 203) rfl)) (hw _ (List.mem_of_getElem? (i := 44) rfl)) (hw _ (List.mem_of_getElem? (i := 206) rfl)) (by decide) E (cPut l Z a0 hw n0 hEW q b cs N s sb ds h0 σ S0 T hm sb_ cp Hc hcp) (lenOf bPut_pd rfl) rfl rfl rfl (by decide) (by decide) (ce' := 0) (sl' := 0) rfl rfl (by decide) (by decide) ?_
  rintro _ h_10 σ_11 m_12 ⟨rfl, K_13, r3, A3, hr3⟩
  replace E := E.keep K_13
  replace Fc := Fc.keep K_13 (ninS nqb nin0)
  replace Fv := Fv.keep K_13 (ninS nqb nin0)
  replace Fn := Fn.keep K_13 (ninS nqb nin0)
  replace sq := m_12 _ sq
  replace sb_ := m_12 _ sb_
  refine Road.aloadN 33 bAp0_d33 rfl ?_
  refine Road.dup 34 bAp0_d34 ?_
  refine Road.getfield 35 bAp0_d35 (hw _ (List.mem_of_getElem? (i := 94) rfl)) Via.refl Fn ?_
  refine Road.iloadN 38 bAp0_d38 rfl ?_
  refine Road.iadd 39 bAp0_d39 ?_
  refine Road.nameI ?_
  intro z_16 hz_16
  obtain rfl : z_16 = (Nat.toInt32 (cs ++ ds).length) := by rw [hz_16]; rw [Road.add32n, List.length_append]
  refine Road.putfield 40 bAp0_d40 (hw _ (List.mem_of_getElem? (i := 94) rfl)) Via.refl Fn E (Or.inl (hw _ (List.mem_of_getElem? (i := 95) rfl))) (hw _ (List.mem_of_getElem? (i := 35) rfl)) (ty := .int) (by decide) rfl rfl sq ?_
  intro h_19 W_17 K_18
  replace Fn := Fn.same W_17
  replace Fc := Fc.other W_17 (Or.inr (slot_ne (Or.inl (hw _ (List.mem_of_getElem? (i := 53) rfl))) (Or.inl (hw _ (List.mem_of_getElem? (i := 95) rfl))) (by decide) (t := .byte) (by decide) (t' := .int) (by decide)))
  replace Fv := Fv.other W_17 (Or.inr (slot_ne (Or.inl (hw _ (List.mem_of_getElem? (i := 51) rfl))) (Or.inl (hw _ (List.mem_of_getElem? (i := 95) rfl))) (by decide) (t := (.array .byte)) (by decide) (t' := .int) (by decide)))
  replace E := E.keep K_18
  replace A3 := A3.keep K_18 (ninS (Ne.symm nqb) nin0)
  refine Road.aloadN 43 bAp0_d43 rfl ?_
  exact Road.aret 44 bAp0_d44 (t := (.object "java/lang/AbstractStringBuilder")) rfl rfl rfl (by decide) (by decide) (fun σ' m => ⟨rfl, (Road.keep2 K_13 K_18), ⟨E, Fc, Fv, Fn, ⟨r3, A3, hr3⟩, (fun c hc => (List.mem_append.mp hc).elim (hlt c) (T.2.2.2.2 c))⟩⟩)
def bSp0 : Road.Bdy := (⟨"java/lang/StringBuilder", "append", "(Ljava/lang/String;)Ljava/lang/StringBuilder;"⟩, jdk_67_method_7_code, 2, (some (.object "java/lang/StringBuilder")), { frames := 4, cells := 0, slots := 0, locals := 62 })
theorem bSp0_d0 : decode bSp0.bs 0 = .ok (.aload_n 0, 1) := by decide +kernel
theorem bSp0_d1 : decode bSp0.bs 1 = .ok (.aload_n 1, 1) := by decide +kernel
theorem bSp0_d2 : decode bSp0.bs 2 = .ok (.invokespecial 29, 3) := by decide +kernel
theorem bSp0_d5 : decode bSp0.bs 5 = .ok (.pop, 1) := by decide +kernel
theorem bSp0_d6 : decode bSp0.bs 6 = .ok (.aload_n 0, 1) := by decide +kernel
theorem bSp0_d7 : decode bSp0.bs 7 = .ok (.areturn, 1) := by decide +kernel
theorem bSp0_pd : parseMethodDescriptor "(Ljava/lang/String;)Ljava/lang/StringBuilder;" = some ⟨[(.object "java/lang/String")], (some (.object "java/lang/StringBuilder"))⟩ := by decide +kernel
theorem bSp0_pn : plainFor bSp0.y = true := plainFor_of_name (show plainName "java/lang/StringBuilder" = true from by first | (simp [plainName, overriddenIn]; done) | decide +kernel)
theorem cSp0 (l : Launch) (Z : State) (a0 : Array Value) (hw : ∀ d ∈ tables_1, d.before a0 Z = true) (n0 : Nat) (hEW : EW Z a0 consts_1) (q b : Addr) (cs : List Int32) (N : Nat) (s sb : Addr) (ds : List Int32) (h0 : Heap) (σ : Addr → Prop) (S : Road.Sb Z h0 q b cs N) (T : Road.Str Z h0 s sb ds) (hm : cs.length + ds.length ≤ N) (sb_ : σ b) (sq : σ q) (cp : Int32) (Hc : Sta Z Z.heap Road.SN "COMPACT_STRINGS" "Z" (.int cp)) (hcp : ¬ cp = 0) :
    Road.Con l Z consts_1 n0 false bSp0 [] σ #[(.ref q), (.ref s)] h0 (fun v h2 s2 => v = some (.ref q) ∧ Keep h0 h2 [q, b] ∧ Road.Sb Z h2 q b (cs ++ ds) N) := by
  refine Road.Con.of bSp0_pn hEW #[.val (.ref q), .val (.ref s)] (fun m => Road.ent (Road.laid1 rfl (Road.laid1 rfl Road.laid0)) (k := 0) rfl rfl) ?_
  intro D hD
  refine Road.aloadN 0 bSp0_d0 rfl ?_
  refine Road.aloadN 1 bSp0_d1 rfl ?_
  refine Road.callUp (B' := bAp0) (a := q) 2 (argsL := [(.ref s)]) (rest := []) "java/lang/StringBuilder" 0 bSp0_d2 (hw _ (List.mem_of_getElem? (i := 192) rfl)) (Road.notFace_sib (hw _ (List.mem_of_getElem? (i := 83) rfl)) rfl) (hw _ (List.mem_of_getElem? (i := 193) rfl)) (hw _ (List.mem_of_getElem? (i := 92) rfl)) (hw _ (List.mem_of_getElem? (i := 44) rfl)) (hw _ (List.mem_of_getElem? (i := 195) rfl)) (by decide) (by decide) S.1 (cAp0 l Z a0 hw n0 hEW q b cs N s sb ds h0 σ S T hm sb_ sq cp Hc hcp) (lenOf bAp0_pd rfl) rfl rfl rfl (by decide) (by decide) (ce' := 0) (sl' := 0) rfl rfl (by decide) (by decide) ?_
  rintro _ h_1 σ_2 m_3 ⟨rfl, K_4, S2⟩
  refine Road.pop 5 bSp0_d5 ?_
  refine Road.aloadN 6 bSp0_d6 rfl ?_
  exact Road.aret 7 bSp0_d7 (t := (.object "java/lang/StringBuilder")) rfl rfl rfl (by decide) (by decide) (fun σ' m => ⟨rfl, K_4, S2⟩)
def bAbL : Road.Bdy := (⟨"java/lang/AbstractStringBuilder", "isLatin1", "()Z"⟩, jdk_68_method_68_code, 1, (some .boolean), { frames := 0, cells := 0, slots := 0, locals := 0 })
theorem bAbL_d0 : decode bAbL.bs 0 = .ok (.getstatic 18, 3) := by decide +kernel
theorem bAbL_d3 : decode bAbL.bs 3 = .ok (.ifCond .eq 14, 3) := by decide +kernel
theorem bAbL_d6 : decode bAbL.bs 6 = .ok (.aload_n 0, 1) := by decide +kernel
theorem bAbL_d7 : decode bAbL.bs 7 = .ok (.getfield 22, 3) := by decide +kernel
theorem bAbL_d10 : decode bAbL.bs 10 = .ok (.ifCond .ne 7, 3) := by decide +kernel
theorem bAbL_d13 : decode bAbL.bs 13 = .ok (.iconst 1, 1) := by decide +kernel
theorem bAbL_d14 : decode bAbL.bs 14 = .ok (.goto 4, 3) := by decide +kernel
theorem bAbL_d17 : decode bAbL.bs 17 = .ok (.iconst 0, 1) := by decide +kernel
theorem bAbL_d18 : decode bAbL.bs 18 = .ok (.ireturn, 1) := by decide +kernel
theorem bAbL_pd : parseMethodDescriptor "()Z" = some ⟨[], (some .boolean)⟩ := by decide +kernel
theorem bAbL_pn : plainFor bAbL.y = true := plainFor_of_name (show plainName "java/lang/AbstractStringBuilder" = true from by first | (simp [plainName, overriddenIn]; done) | decide +kernel)
theorem cAbL (l : Launch) (Z : State) (a0 : Array Value) (hw : ∀ d ∈ tables_1, d.before a0 Z = true) (n0 : Nat) (hEW : EW Z a0 consts_1) (q : Addr) (h0 : Heap) (σ : Addr → Prop) (Fc : Fld Z h0 q Road.AB "coder" "B" (.int 0)) (cp : Int32) (Hc : Sta Z Z.heap Road.SN "COMPACT_STRINGS" "Z" (.int cp)) (hcp : ¬ cp = 0) :
    Road.Con l Z consts_1 n0 false bAbL [] σ #[(.ref q)] h0 (fun v h2 _ => v = some (.int 1) ∧ h0 = h2) := by
  refine Road.Con.of bAbL_pn hEW #[.val (.ref q)] (fun m => Road.ent (Road.laid1 rfl Road.laid0) (k := 0) rfl rfl) ?_
  intro D hD
  refine Road.getstatic 0 bAbL_d0 (hw _ (List.mem_of_getElem? (i := 47) rfl)) Via.refl Hc ?_
  refine Road.if_eq 3 17 bAbL_d3 rfl (fun q => absurd q hcp) (fun hc3 => ?_)
  refine Road.aloadN 6 bAbL_d6 rfl ?_
  refine Road.getfield 7 bAbL_d7 (hw _ (List.mem_of_getElem? (i := 52) rfl)) Via.refl Fc ?_
  refine Road.if_ne 10 17 bAbL_d10 rfl (fun q => absurd q (by decide)) (fun hc10 => ?_)
  refine Road.iconst 13 (1 : Int32) bAbL_d13 rfl ?_
  refine Road.goto 14 18 bAbL_d14 rfl ?_
  exact Road.iret 18 1 bAbL_d18 (t := .boolean) rfl (by simp) rfl (by decide) (by decide) (fun σ' m => ⟨rfl, rfl⟩)
def bAc0 : Road.Bdy := (⟨"java/lang/AbstractStringBuilder", "append", "(C)Ljava/lang/AbstractStringBuilder;"⟩, jdk_68_method_31_code, 2, (some (.object "java/lang/AbstractStringBuilder")), { frames := 1, cells := 0, slots := 0, locals := 14 })
theorem bAc0_d0 : decode bAc0.bs 0 = .ok (.aload_n 0, 1) := by decide +kernel
theorem bAc0_d1 : decode bAc0.bs 1 = .ok (.aload_n 0, 1) := by decide +kernel
theorem bAc0_d2 : decode bAc0.bs 2 = .ok (.getfield 79, 3) := by decide +kernel
theorem bAc0_d5 : decode bAc0.bs 5 = .ok (.iconst 1, 1) := by decide +kernel
theorem bAc0_d6 : decode bAc0.bs 6 = .ok (.iadd, 1) := by decide +kernel
theorem bAc0_d7 : decode bAc0.bs 7 = .ok (.invokevirtual 100, 3) := by decide +kernel
theorem bAc0_d10 : decode bAc0.bs 10 = .ok (.aload_n 0, 1) := by decide +kernel
theorem bAc0_d11 : decode bAc0.bs 11 = .ok (.invokevirtual 83, 3) := by decide +kernel
theorem bAc0_d14 : decode bAc0.bs 14 = .ok (.ifCond .eq 31, 3) := by decide +kernel
theorem bAc0_d17 : decode bAc0.bs 17 = .ok (.iload_n 1, 1) := by decide +kernel
theorem bAc0_d18 : decode bAc0.bs 18 = .ok (.invokestatic 191, 3) := by decide +kernel
theorem bAc0_d21 : decode bAc0.bs 21 = .ok (.ifCond .eq 24, 3) := by decide +kernel
theorem bAc0_d24 : decode bAc0.bs 24 = .ok (.aload_n 0, 1) := by decide +kernel
theorem bAc0_d25 : decode bAc0.bs 25 = .ok (.getfield 15, 3) := by decide +kernel
theorem bAc0_d28 : decode bAc0.bs 28 = .ok (.aload_n 0, 1) := by decide +kernel
theorem bAc0_d29 : decode bAc0.bs 29 = .ok (.dup, 1) := by decide +kernel
theorem bAc0_d30 : decode bAc0.bs 30 = .ok (.getfield 79, 3) := by decide +kernel
theorem bAc0_d33 : decode bAc0.bs 33 = .ok (.dup_x1, 1) := by decide +kernel
theorem bAc0_d34 : decode bAc0.bs 34 = .ok (.iconst 1, 1) := by decide +kernel
theorem bAc0_d35 : decode bAc0.bs 35 = .ok (.iadd, 1) := by decide +kernel
theorem bAc0_d36 : decode bAc0.bs 36 = .ok (.putfield 79, 3) := by decide +kernel
theorem bAc0_d39 : decode bAc0.bs 39 = .ok (.iload_n 1, 1) := by decide +kernel
theorem bAc0_d40 : decode bAc0.bs 40 = .ok (.i2b, 1) := by decide +kernel
theorem bAc0_d41 : decode bAc0.bs 41 = .ok (.bastore, 1) := by decide +kernel
theorem bAc0_d42 : decode bAc0.bs 42 = .ok (.goto 33, 3) := by decide +kernel
theorem bAc0_d45 : decode bAc0.bs 45 = .ok (.aload_n 0, 1) := by decide +kernel
theorem bAc0_d46 : decode bAc0.bs 46 = .ok (.invokevirtual 83, 3) := by decide +kernel
theorem bAc0_d49 : decode bAc0.bs 49 = .ok (.ifCond .eq 7, 3) := by decide +kernel
theorem bAc0_d52 : decode bAc0.bs 52 = .ok (.aload_n 0, 1) := by decide +kernel
theorem bAc0_d53 : decode bAc0.bs 53 = .ok (.invokevirtual 195, 3) := by decide +kernel
theorem bAc0_d56 : decode bAc0.bs 56 = .ok (.aload_n 0, 1) := by decide +kernel
theorem bAc0_d57 : decode bAc0.bs 57 = .ok (.getfield 15, 3) := by decide +kernel
theorem bAc0_d60 : decode bAc0.bs 60 = .ok (.aload_n 0, 1) := by decide +kernel
theorem bAc0_d61 : decode bAc0.bs 61 = .ok (.dup, 1) := by decide +kernel
theorem bAc0_d62 : decode bAc0.bs 62 = .ok (.getfield 79, 3) := by decide +kernel
theorem bAc0_d65 : decode bAc0.bs 65 = .ok (.dup_x1, 1) := by decide +kernel
theorem bAc0_d66 : decode bAc0.bs 66 = .ok (.iconst 1, 1) := by decide +kernel
theorem bAc0_d67 : decode bAc0.bs 67 = .ok (.iadd, 1) := by decide +kernel
theorem bAc0_d68 : decode bAc0.bs 68 = .ok (.putfield 79, 3) := by decide +kernel
theorem bAc0_d71 : decode bAc0.bs 71 = .ok (.iload_n 1, 1) := by decide +kernel
theorem bAc0_d72 : decode bAc0.bs 72 = .ok (.invokestatic 197, 3) := by decide +kernel
theorem bAc0_d75 : decode bAc0.bs 75 = .ok (.aload_n 0, 1) := by decide +kernel
theorem bAc0_d76 : decode bAc0.bs 76 = .ok (.areturn, 1) := by decide +kernel
theorem bAc0_pd : parseMethodDescriptor "(C)Ljava/lang/AbstractStringBuilder;" = some ⟨[.char], (some (.object "java/lang/AbstractStringBuilder"))⟩ := by decide +kernel
theorem bAc0_pn : plainFor bAc0.y = true := plainFor_of_name (show plainName "java/lang/AbstractStringBuilder" = true from by first | (simp [plainName, overriddenIn]; done) | decide +kernel)
theorem cAc0 (l : Launch) (Z : State) (a0 : Array Value) (hw : ∀ d ∈ tables_1, d.before a0 Z = true) (n0 : Nat) (hEW : EW Z a0 consts_1) (q b : Addr) (cs : List Int32) (N : Nat) (x : Int32) (h0 : Heap) (σ : Addr → Prop) (S : Road.Sb Z h0 q b cs N) (hx : 0 ≤ x.toInt ∧ x.toInt < 256) (hm : cs.length + 1 ≤ N) (sb_ : σ b) (sq : σ q) (cp : Int32) (Hc : Sta Z Z.heap Road.SN "COMPACT_STRINGS" "Z" (.int cp)) (hcp : ¬ cp = 0) :
    Road.Con l Z consts_1 n0 false bAc0 [] σ #[(.ref q), (.int x)] h0 (fun v h2 s2 => v = some (.ref q) ∧ Keep h0 h2 [q, b] ∧ Road.Sb Z h2 q b (cs ++ [x]) N) := by
  have S0 := S
  have hN := S.small
  have hle := S.le
  obtain ⟨E, Fc, Fv, Fn, ⟨r, Ab, hr⟩, hlt⟩ := S
  have nqb : q ≠ b := by obtain ⟨c, Ar, -⟩ := Ab; exact ne_arr E (hw _ (List.mem_of_getElem? (i := 35) rfl)) Ar
  refine Road.Con.of bAc0_pn hEW #[.val (.ref q), .val (.int x)] (fun m => Road.ent (Road.laid1 rfl (Road.laid1 rfl Road.laid0)) (k := 0) rfl rfl) ?_
  intro D hD
  refine Road.aloadN 0 bAc0_d0 rfl ?_
  refine Road.aloadN 1 bAc0_d1 rfl ?_
  refine Road.getfield 2 bAc0_d2 (hw _ (List.mem_of_getElem? (i := 94) rfl)) Via.refl Fn ?_
  refine Road.iconst 5 (1 : Int32) bAc0_d5 rfl ?_
  refine Road.iadd 6 bAc0_d6 ?_
  refine Road.nameI ?_
  intro z_1 hz_1
  obtain rfl : z_1 = (Nat.toInt32 (cs.length + 1)) := by rw [hz_1]; exact Road.succ32 _
  refine Road.callP (B' := bEn0) (a := q) 7 (argsL := [(.int (Nat.toInt32 (cs.length + 1)))]) (rest := []) "java/lang/StringBuilder" 0 bAc0_d7 (hw _ (List.mem_of_getElem? (i := 197) rfl)) (hw _ (List.mem_of_getElem? (i := 199) rfl)) (hw _ (List.mem_of_getElem? (i := 200) rfl)) (hw _ (List.mem_of_getElem? (i := 198) rfl)) (hw _ (List.mem_of_getElem? (i := 44) rfl)) (hw _ (List.mem_of_getElem? (i := 201) rfl)) (by decide) E (cEn0 l Z a0 hw n0 hEW q b cs N (cs.length + 1) h0 σ S0 hm) (lenOf bEn0_pd rfl) rfl rfl rfl (by decide) (by decide) (ce' := 0) (sl' := 0) rfl rfl (by decide) (by decide) ?_
  rintro _ h_2 σ_3 m_4 ⟨rfl, rfl⟩
  refine Road.Go.weaken (σ' := σ) m_4 (Nat.le_refl _) (Nat.le_refl _) ?_
  refine Road.aloadN 10 bAc0_d10 rfl ?_
  refine Road.callV (B' := bAbL) (a := q) 11 (argsL := []) (rest := []) "java/lang/StringBuilder" 0 bAc0_d11 (hw _ (List.mem_of_getElem? (i := 255) rfl)) (hw _ (List.mem_of_getElem? (i := 97) rfl)) (fun vm hz => Road.notFace_sib (args := #[]) (mv (s := D.s.setVm vm) hz (hw _ (List.mem_of_getElem? (i := 83) rfl))) rfl) (hw _ (List.mem_of_getElem? (i := 99) rfl)) (hw _ (List.mem_of_getElem? (i := 98) rfl)) (hw _ (List.mem_of_getElem? (i := 44) rfl)) (hw _ (List.mem_of_getElem? (i := 100) rfl)) (by decide) E (cAbL l Z a0 hw n0 hEW q h0 σ Fc cp Hc hcp) (lenOf bAbL_pd rfl) rfl rfl rfl (by decide) (by decide) (ce' := 0) (sl' := 0) rfl rfl (by decide) (by decide) ?_
  rintro _ h_6 σ_7 m_8 ⟨rfl, rfl⟩
  refine Road.Go.weaken (σ' := σ) m_8 (Nat.le_refl _) (Nat.le_refl _) ?_
  refine Road.if_eq 14 45 bAc0_d14 rfl (fun q => absurd q (by decide)) (fun hc14 => ?_)
  refine Road.iloadN 17 bAc0_d17 rfl ?_
  refine Road.callS (B' := bCan) 18 (argsL := [(.int x)]) (rest := []) 0 bAc0_d18 (hw _ (List.mem_of_getElem? (i := 256) rfl)) (hw _ (List.mem_of_getElem? (i := 142) rfl)) (hw _ (List.mem_of_getElem? (i := 143) rfl)) (hw _ (List.mem_of_getElem? (i := 144) rfl)) (by decide) (cCan l Z a0 hw n0 hEW x h0 σ hx) (lenOf bCan_pd rfl) rfl rfl rfl (by decide) (by decide) (ce' := 0) (sl' := 0) rfl rfl (by decide) (by decide) ?_
  rintro _ h_10 σ_11 m_12 ⟨rfl, rfl⟩
  refine Road.Go.weaken (σ' := σ) m_12 (Nat.le_refl _) (Nat.le_refl _) ?_
  refine Road.if_eq 21 45 bAc0_d21 rfl (fun q => absurd q (by decide)) (fun hc21 => ?_)
  refine Road.aloadN 24 bAc0_d24 rfl ?_
  refine Road.getfield 25 bAc0_d25 (hw _ (List.mem_of_getElem? (i := 50) rfl)) Via.refl Fv ?_
  refine Road.aloadN 28 bAc0_d28 rfl ?_
  refine Road.dup 29 bAc0_d29 ?_
  refine Road.getfield 30 bAc0_d30 (hw _ (List.mem_of_getElem? (i := 94) rfl)) Via.refl Fn ?_
  refine Road.dupX1 33 bAc0_d33 ?_
  refine Road.iconst 34 (1 : Int32) bAc0_d34 rfl ?_
  refine Road.iadd 35 bAc0_d35 ?_
  refine Road.nameI ?_
  intro z_14 hz_14
  obtain rfl : z_14 = (Nat.toInt32 (cs ++ [x]).length) := by rw [hz_14]; rw [Road.succ32, List.length_append]; rfl
  refine Road.putfield 36 bAc0_d36 (hw _ (List.mem_of_getElem? (i := 94) rfl)) Via.refl Fn E (Or.inl (hw _ (List.mem_of_getElem? (i := 95) rfl))) (hw _ (List.mem_of_getElem? (i := 35) rfl)) (ty := .int) (by decide) rfl rfl sq ?_
  intro h_17 W_15 K_16
  replace Fn := Fn.same W_15
  replace Fc := Fc.other W_15 (Or.inr (slot_ne (Or.inl (hw _ (List.mem_of_getElem? (i := 53) rfl))) (Or.inl (hw _ (List.mem_of_getElem? (i := 95) rfl))) (by decide) (t := .byte) (by decide) (t' := .int) (by decide)))
  replace Fv := Fv.other W_15 (Or.inr (slot_ne (Or.inl (hw _ (List.mem_of_getElem? (i := 51) rfl))) (Or.inl (hw _ (List.mem_of_getElem? (i := 95) rfl))) (by decide) (t := (.array .byte)) (by decide) (t' := .int) (by decide)))
  replace E := E.keep K_16
  replace Ab := Ab.keep K_16 (ninS (Ne.symm nqb) nin0)
  refine Road.iloadN 39 bAc0_d39 rfl ?_
  refine Road.i2b 40 bAc0_d40 ?_
  refine Road.bastore 41 cs.length (Int8.toInt32 (Int32.toInt8 x)) bAc0_d41 Ab (Road.n32 (by omega)) (by rw [List.length_append, List.length_map]; omega) (Road.nar_byte _) sb_ ?_
  intro h_18 K_19 A_20
  replace E := E.keep K_19
  replace Fc := Fc.keep K_19 (ninS nqb nin0)
  replace Fv := Fv.keep K_19 (ninS nqb nin0)
  replace Fn := Fn.keep K_19 (ninS nqb nin0)
  replace Ab := A_20
  rw [show (Value.int (Int8.toInt32 (Int32.toInt8 x))) = Road.byt x from rfl, Road.put_chr _ _ _ (by omega)] at Ab
  refine Road.goto 42 75 bAc0_d42 rfl ?_
  refine Road.aloadN 75 bAc0_d75 rfl ?_
  exact Road.aret 76 bAc0_d76 (t := (.object "java/lang/AbstractStringBuilder")) rfl rfl rfl (by decide) (by decide) (fun σ' m => ⟨rfl, Road.keep2' K_16 K_19, ⟨E, Fc, Fv, Fn, ⟨_, Ab, by rw [List.length_append, List.length_drop]; simp only [List.length_singleton]; omega⟩, (fun c hc => (List.mem_append.mp hc).elim (hlt c) (fun hy => by rw [List.mem_singleton.mp hy]; exact hx))⟩⟩)
def bSc0 : Road.Bdy := (⟨"java/lang/StringBuilder", "append", "(C)Ljava/lang/StringBuilder;"⟩, jdk_67_method_14_code, 2, (some (.object "java/lang/StringBuilder")), { frames := 2, cells := 0, slots := 0, locals := 27 })
theorem bSc0_d0 : decode bSc0.bs 0 = .ok (.aload_n 0, 1) := by decide +kernel
theorem bSc0_d1 : decode bSc0.bs 1 = .ok (.iload_n 1, 1) := by decide +kernel
theorem bSc0_d2 : decode bSc0.bs 2 = .ok (.invokespecial 50, 3) := by decide +kernel
theorem bSc0_d5 : decode bSc0.bs 5 = .ok (.pop, 1) := by decide +kernel
theorem bSc0_d6 : decode bSc0.bs 6 = .ok (.aload_n 0, 1) := by decide +kernel
theorem bSc0_d7 : decode bSc0.bs 7 = .ok (.areturn, 1) := by decide +kernel
theorem bSc0_pd : parseMethodDescriptor "(C)Ljava/lang/StringBuilder;" = some ⟨[.char], (some (.object "java/lang/StringBuilder"))⟩ := by decide +kernel
theorem bSc0_pn : plainFor bSc0.y = true := plainFor_of_name (show plainName "java/lang/StringBuilder" = true from by first | (simp [plainName, overriddenIn]; done) | decide +kernel)
theorem cSc0 (l : Launch) (Z : State) (a0 : Array Value) (hw : ∀ d ∈ tables_1, d.before a0 Z = true) (n0 : Nat) (hEW : EW Z a0 consts_1) (q b : Addr) (cs : List Int32) (N : Nat) (x : Int32) (h0 : Heap) (σ : Addr → Prop) (S : Road.Sb Z h0 q b cs N) (hx : 0 ≤ x.toInt ∧ x.toInt < 256) (hm : cs.length + 1 ≤ N) (sb_ : σ b) (sq : σ q) (cp : Int32) (Hc : Sta Z Z.heap Road.SN "COMPACT_STRINGS" "Z" (.int cp)) (hcp : ¬ cp = 0) :
    Road.Con l Z consts_1 n0 false bSc0 [] σ #[(.ref q), (.int x)] h0 (fun v h2 s2 => v = some (.ref q) ∧ Keep h0 h2 [q, b] ∧ Road.Sb Z h2 q b (cs ++ [x]) N) := by
  refine Road.Con.of bSc0_pn hEW #[.val (.ref q), .val (.int x)] (fun m => Road.ent (Road.laid1 rfl (Road.laid1 rfl Road.laid0)) (k := 0) rfl rfl) ?_
  intro D hD
  refine Road.aloadN 0 bSc0_d0 rfl ?_
  refine Road.iloadN 1 bSc0_d1 rfl ?_
  refine Road.callUp (B' := bAc0) (a := q) 2 (argsL := [(.int x)]) (rest := []) "java/lang/StringBuilder" 0 bSc0_d2 (hw _ (List.mem_of_getElem? (i := 251) rfl)) (Road.notFace_sib (hw _ (List.mem_of_getElem? (i := 83) rfl)) rfl) (hw _ (List.mem_of_getElem? (i := 252) rfl)) (hw _ (List.mem_of_getElem? (i := 92) rfl)) (hw _ (List.mem_of_getElem? (i := 44) rfl)) (hw _ (List.mem_of_getElem? (i := 254) rfl)) (by decide) (by decide) S.1 (cAc0 l Z a0 hw n0 hEW q b cs N x h0 σ S hx hm sb_ sq cp Hc hcp) (lenOf bAc0_pd rfl) rfl rfl rfl (by decide) (by decide) (ce' := 0) (sl' := 0) rfl rfl (by decide) (by decide) ?_
  rintro _ h_1 σ_2 m_3 ⟨rfl, K_4, S2⟩
  refine Road.pop 5 bSc0_d5 ?_
  refine Road.aloadN 6 bSc0_d6 rfl ?_
  exact Road.aret 7 bSc0_d7 (t := (.object "java/lang/StringBuilder")) rfl rfl rfl (by decide) (by decide) (fun σ' m => ⟨rfl, K_4, S2⟩)
def bMin : Road.Bdy := (⟨"java/lang/Math", "min", "(II)I"⟩, jdk_29_method_69_code, 2, (some .int), { frames := 0, cells := 0, slots := 0, locals := 0 })
theorem bMin_d0 : decode bMin.bs 0 = .ok (.iload_n 0, 1) := by decide +kernel
theorem bMin_d1 : decode bMin.bs 1 = .ok (.iload_n 1, 1) := by decide +kernel
theorem bMin_d2 : decode bMin.bs 2 = .ok (.if_icmp .gt 7, 3) := by decide +kernel
theorem bMin_d5 : decode bMin.bs 5 = .ok (.iload_n 0, 1) := by decide +kernel
theorem bMin_d6 : decode bMin.bs 6 = .ok (.goto 4, 3) := by decide +kernel
theorem bMin_d9 : decode bMin.bs 9 = .ok (.iload_n 1, 1) := by decide +kernel
theorem bMin_d10 : decode bMin.bs 10 = .ok (.ireturn, 1) := by decide +kernel
theorem bMin_pd : parseMethodDescriptor "(II)I" = some ⟨[.int, .int], (some .int)⟩ := by decide +kernel
theorem bMin_pn : plainFor bMin.y = true := Jvm.Free.JP.mathPlain rfl (by decide +kernel)
theorem cMin (l : Launch) (Z : State) (a0 : Array Value) (hw : ∀ d ∈ tables_1, d.before a0 Z = true) (n0 : Nat) (hEW : EW Z a0 consts_1) (i j : Nat) (h0 : Heap) (σ : Addr → Prop) (hi : i < 2147483648) (hj : j < 2147483648) :
    Road.Con l Z consts_1 n0 false bMin [] σ #[(.int (Nat.toInt32 i)), (.int (Nat.toInt32 j))] h0 (fun v h2 _ => v = some (.int (Nat.toInt32 (min i j))) ∧ h0 = h2) := by
  refine Road.Con.of bMin_pn hEW #[.val (.int (Nat.toInt32 i)), .val (.int (Nat.toInt32 j))] (fun m => Road.ent (Road.laid1 rfl (Road.laid1 rfl Road.laid0)) (k := 0) rfl rfl) ?_
  intro D hD
  refine Road.iloadN 0 bMin_d0 rfl ?_
  refine Road.iloadN 1 bMin_d1 rfl ?_
  refine Road.icmp_gt 2 9 bMin_d2 rfl (fun hc2 => ?_) (fun hc2 => ?_)
  · skip
    refine Road.iloadN 9 bMin_d9 rfl ?_
    exact Road.iretI 10 bMin_d10 rfl (by decide) (by decide) (fun σ' m => ⟨by rw [Road.lt32 hj hi] at hc2; rw [Nat.min_eq_right (by omega)], rfl⟩)
  · skip
    refine Road.iloadN 5 bMin_d5 rfl ?_
    refine Road.goto 6 10 bMin_d6 rfl ?_
    exact Road.iretI 10 bMin_d10 rfl (by decide) (by decide) (fun σ' m => ⟨by rw [Road.lt32 hj hi] at hc2; rw [Nat.min_eq_left (by omega)], rfl⟩)
def bCpO : Road.Bdy := (⟨"java/util/Arrays", "copyOf", "([BI)[B"⟩, jdk_65_method_121_code, 3, (some (.array .byte)), { frames := 1, cells := 1, slots := 34, locals := 22 })
theorem bCpO_d0 : decode bCpO.bs 0 = .ok (.iload_n 1, 1) := by decide +kernel
theorem bCpO_d1 : decode bCpO.bs 1 = .ok (.aload_n 0, 1) := by decide +kernel
theorem bCpO_d2 : decode bCpO.bs 2 = .ok (.arraylength, 1) := by decide +kernel
theorem bCpO_d3 : decode bCpO.bs 3 = .ok (.if_icmp .ne 11, 3) := by decide +kernel
theorem bCpO_d6 : decode bCpO.bs 6 = .ok (.aload_n 0, 1) := by decide +kernel
theorem bCpO_d7 : decode bCpO.bs 7 = .ok (.invokevirtual 310, 3) := by decide +kernel
theorem bCpO_d10 : decode bCpO.bs 10 = .ok (.checkcast 311, 3) := by decide +kernel
theorem bCpO_d13 : decode bCpO.bs 13 = .ok (.areturn, 1) := by decide +kernel
theorem bCpO_d14 : decode bCpO.bs 14 = .ok (.iload_n 1, 1) := by decide +kernel
theorem bCpO_d15 : decode bCpO.bs 15 = .ok (.newarray .byte, 2) := by decide +kernel
theorem bCpO_d17 : decode bCpO.bs 17 = .ok (.astore_n 2, 1) := by decide +kernel
theorem bCpO_d18 : decode bCpO.bs 18 = .ok (.aload_n 0, 1) := by decide +kernel
theorem bCpO_d19 : decode bCpO.bs 19 = .ok (.iconst 0, 1) := by decide +kernel
theorem bCpO_d20 : decode bCpO.bs 20 = .ok (.aload_n 2, 1) := by decide +kernel
theorem bCpO_d21 : decode bCpO.bs 21 = .ok (.iconst 0, 1) := by decide +kernel
theorem bCpO_d22 : decode bCpO.bs 22 = .ok (.aload_n 0, 1) := by decide +kernel
theorem bCpO_d23 : decode bCpO.bs 23 = .ok (.arraylength, 1) := by decide +kernel
theorem bCpO_d24 : decode bCpO.bs 24 = .ok (.iload_n 1, 1) := by decide +kernel
theorem bCpO_d25 : decode bCpO.bs 25 = .ok (.invokestatic 304, 3) := by decide +kernel
theorem bCpO_d28 : decode bCpO.bs 28 = .ok (.invokestatic 150, 3) := by decide +kernel
theorem bCpO_d31 : decode bCpO.bs 31 = .ok (.aload_n 2, 1) := by decide +kernel
theorem bCpO_d32 : decode bCpO.bs 32 = .ok (.areturn, 1) := by decide +kernel
theorem bCpO_pd : parseMethodDescriptor "([BI)[B" = some ⟨[(.array .byte), .int], (some (.array .byte))⟩ := by decide +kernel
theorem bCpO_pn : plainFor bCpO.y = true := plainFor_of_name (show plainName "java/util/Arrays" = true from by first | (simp [plainName, overriddenIn]; done) | decide +kernel)
theorem cCpO (l : Launch) (Z : State) (a0 : Array Value) (hw : ∀ d ∈ tables_1, d.before a0 Z = true) (n0 : Nat) (hEW : EW Z a0 consts_1) (b : Addr) (vs : List Value) (m : Nat) (h0 : Heap) (σ : Addr → Prop) (A : Road.Ary Z h0 b .byte vs) (hm : vs.length < m) (hcap : m ≤ 34) :
    Road.Con l Z consts_1 n0 false bCpO [] σ #[(.ref b), (.int (Nat.toInt32 m))] h0 (fun v h2 s2 => ∃ d, v = some (.ref d) ∧ h0.size ≤ d ∧ Keep h0 h2 [] ∧ s2 d ∧ Road.Ary Z h2 d .byte (vs ++ List.replicate (m - vs.length) (.int 0))) := by
  have hsm := A.small
  refine Road.Con.of bCpO_pn hEW #[.val (.ref b), .val (.int (Nat.toInt32 m)), .unset] (fun m => Road.ent (Road.laid1 rfl (Road.laid1 rfl Road.laid0)) (k := 1) rfl rfl) ?_
  intro D hD
  refine Road.iloadN 0 bCpO_d0 rfl ?_
  refine Road.aloadN 1 bCpO_d1 rfl ?_
  refine Road.alen 2 (Nat.toInt32 vs.length) bCpO_d2 A (n := vs.length) rfl rfl ?_
  refine Road.icmp_ne 3 14 bCpO_d3 rfl (fun hc3 => ?_) (fun q => absurd q (by rw [Road.eq32 (by omega) (by omega)]; omega))
  refine Road.iloadN 14 bCpO_d14 rfl ?_
  refine Road.newarray 15 .byte m 34 bCpO_d15 rfl (hw _ (List.mem_of_getElem? (i := 49) rfl)) (Road.n32 (by omega)) hcap (by decide) (ce' := 1) (sl' := 34) rfl rfl (by decide) (by decide) ?_
  intro d h_1 σ_2 g_3 K_4 lt_5 m_6 s_7 Ad
  have ne_b_d : b ≠ d := Nat.ne_of_lt (Nat.lt_of_lt_of_le A.lt (Nat.le_of_eq g_3.symm))
  replace A := A.keep K_4 nin0
  refine Road.astoreN 17 #[.val (.ref b), .val (.int (Nat.toInt32 m)), .val (.ref d)] bCpO_d17 rfl ?_
  refine Road.aloadN 18 bCpO_d18 rfl ?_
  refine Road.iconst 19 (0 : Int32) bCpO_d19 rfl ?_
  refine Road.aloadN 20 bCpO_d20 rfl ?_
  refine Road.iconst 21 (0 : Int32) bCpO_d21 rfl ?_
  refine Road.aloadN 22 bCpO_d22 rfl ?_
  refine Road.alen 23 (Nat.toInt32 vs.length) bCpO_d23 A (n := vs.length) rfl rfl ?_
  refine Road.iloadN 24 bCpO_d24 rfl ?_
  refine Road.callS (B' := bMin) 25 (argsL := [(.int (Nat.toInt32 vs.length)), (.int (Nat.toInt32 m))]) (rest := [(.int (0 : Int32)), (.ref d), (.int (0 : Int32)), (.ref b)]) 4 bCpO_d25 (hw _ (List.mem_of_getElem? (i := 113) rfl)) (hw _ (List.mem_of_getElem? (i := 114) rfl)) (hw _ (List.mem_of_getElem? (i := 115) rfl)) (hw _ (List.mem_of_getElem? (i := 116) rfl)) (by decide) (cMin l Z a0 hw n0 hEW vs.length m h_1 σ_2 hsm (by omega)) (lenOf bMin_pd rfl) rfl rfl rfl (by decide) (by decide) (ce' := 1) (sl' := 34) rfl rfl (by decide) (by decide) ?_
  rintro _ h_8 σ_9 m_10 ⟨rfl, rfl⟩
  refine Road.Go.weaken (σ' := σ_2) m_10 (Nat.le_refl _) (Nat.le_refl _) ?_
  refine Road.acopy 28 0 0 vs.length 0 bCpO_d28 (hw _ (List.mem_of_getElem? (i := 117) rfl)) (hw _ (List.mem_of_getElem? (i := 120) rfl)) (hw _ (List.mem_of_getElem? (i := 118) rfl)) (hw _ (List.mem_of_getElem? (i := 119) rfl)) A Ad rfl rfl rfl (by rw [Nat.min_eq_left (by omega)]; exact Road.n32 hsm) (by omega) (by rw [List.length_replicate]; omega) s_7 rfl rfl (by decide) (by decide) ?_
  intro h_12 K_13 Ae
  replace A := A.keep K_13 (ninS ne_b_d nin0)
  refine Road.aloadN 31 bCpO_d31 rfl ?_
  exact Road.aret 32 bCpO_d32 (t := (.array .byte)) rfl rfl rfl (by decide) (by decide) (fun σ' m => ⟨d, rfl, Nat.le_of_eq g_3.symm, K_4.trans K_13 (by intro x hx; cases List.mem_singleton.mp hx; exact Or.inr (Nat.le_of_eq g_3.symm)), m _ s_7, by simpa [defaultValue] using Ae⟩)
def bNwL : Road.Bdy := (⟨"jdk/internal/util/ArraysSupport", "newLength", "(III)I"⟩, jdk_48_method_27_code, 4, (some .int), { frames := 1, cells := 0, slots := 0, locals := 14 })
theorem bNwL_d0 : decode bNwL.bs 0 = .ok (.iload_n 0, 1) := by decide +kernel
theorem bNwL_d1 : decode bNwL.bs 1 = .ok (.iload_n 1, 1) := by decide +kernel
theorem bNwL_d2 : decode bNwL.bs 2 = .ok (.iload_n 2, 1) := by decide +kernel
theorem bNwL_d3 : decode bNwL.bs 3 = .ok (.invokestatic 194, 3) := by decide +kernel
theorem bNwL_d6 : decode bNwL.bs 6 = .ok (.iadd, 1) := by decide +kernel
theorem bNwL_d7 : decode bNwL.bs 7 = .ok (.istore_n 3, 1) := by decide +kernel
theorem bNwL_d8 : decode bNwL.bs 8 = .ok (.iconst 0, 1) := by decide +kernel
theorem bNwL_d9 : decode bNwL.bs 9 = .ok (.iload_n 3, 1) := by decide +kernel
theorem bNwL_d10 : decode bNwL.bs 10 = .ok (.if_icmp .ge 11, 3) := by decide +kernel
theorem bNwL_d13 : decode bNwL.bs 13 = .ok (.iload_n 3, 1) := by decide +kernel
theorem bNwL_d14 : decode bNwL.bs 14 = .ok (.ldc 200, 2) := by decide +kernel
theorem bNwL_d16 : decode bNwL.bs 16 = .ok (.if_icmp .gt 5, 3) := by decide +kernel
theorem bNwL_d19 : decode bNwL.bs 19 = .ok (.iload_n 3, 1) := by decide +kernel
theorem bNwL_d20 : decode bNwL.bs 20 = .ok (.ireturn, 1) := by decide +kernel
theorem bNwL_d21 : decode bNwL.bs 21 = .ok (.iload_n 0, 1) := by decide +kernel
theorem bNwL_d22 : decode bNwL.bs 22 = .ok (.iload_n 1, 1) := by decide +kernel
theorem bNwL_d23 : decode bNwL.bs 23 = .ok (.invokestatic 201, 3) := by decide +kernel
theorem bNwL_d26 : decode bNwL.bs 26 = .ok (.ireturn, 1) := by decide +kernel
theorem bNwL_pd : parseMethodDescriptor "(III)I" = some ⟨[.int, .int, .int], (some .int)⟩ := by decide +kernel
theorem bNwL_pn : plainFor bNwL.y = true := plainFor_of_name (show plainName "jdk/internal/util/ArraysSupport" = true from by first | (simp [plainName, overriddenIn]; done) | decide +kernel)
theorem cNwL (l : Launch) (Z : State) (a0 : Array Value) (hw : ∀ d ∈ tables_1, d.before a0 Z = true) (n0 : Nat) (hEW : EW Z a0 consts_1) (i g p : Nat) (h0 : Heap) (σ : Addr → Prop) (hi : 0 < i + max g p) (hb : i + max g p ≤ 2147483639) :
    Road.Con l Z consts_1 n0 false bNwL [] σ #[(.int (Nat.toInt32 i)), (.int (Nat.toInt32 g)), (.int (Nat.toInt32 p))] h0 (fun v h2 _ => v = some (.int (Nat.toInt32 (i + max g p))) ∧ h0 = h2) := by
  refine Road.Con.of bNwL_pn hEW #[.val (.int (Nat.toInt32 i)), .val (.int (Nat.toInt32 g)), .val (.int (Nat.toInt32 p)), .unset] (fun m => Road.ent (Road.laid1 rfl (Road.laid1 rfl (Road.laid1 rfl Road.laid0))) (k := 1) rfl rfl) ?_
  intro D hD
  refine Road.iloadN 0 bNwL_d0 rfl ?_
  refine Road.iloadN 1 bNwL_d1 rfl ?_
  refine Road.iloadN 2 bNwL_d2 rfl ?_
  refine Road.callS (B' := bMax) 3 (argsL := [(.int (Nat.toInt32 g)), (.int (Nat.toInt32 p))]) (rest := [(.int (Nat.toInt32 i))]) 1 bNwL_d3 (hw _ (List.mem_of_getElem? (i := 313) rfl)) (hw _ (List.mem_of_getElem? (i := 175) rfl)) (hw _ (List.mem_of_getElem? (i := 115) rfl)) (hw _ (List.mem_of_getElem? (i := 176) rfl)) (by decide) (cMax l Z a0 hw n0 hEW g p h0 σ (by omega) (by omega)) (lenOf bMax_pd rfl) rfl rfl rfl (by decide) (by decide) (ce' := 0) (sl' := 0) rfl rfl (by decide) (by decide) ?_
  rintro _ h_1 σ_2 m_3 ⟨rfl, rfl⟩
  refine Road.Go.weaken (σ' := σ) m_3 (Nat.le_refl _) (Nat.le_refl _) ?_
  refine Road.iadd 6 bNwL_d6 ?_
  refine Road.nameI ?_
  intro z_5 hz_5
  obtain rfl : z_5 = (Nat.toInt32 (i + max g p)) := by rw [hz_5]; exact Road.add32n _ _
  refine Road.istoreN 7 #[.val (.int (Nat.toInt32 i)), .val (.int (Nat.toInt32 g)), .val (.int (Nat.toInt32 p)), .val (.int (Nat.toInt32 (i + max g p)))] bNwL_d7 rfl ?_
  refine Road.iconst 8 (0 : Int32) bNwL_d8 rfl ?_
  refine Road.iloadN 9 bNwL_d9 rfl ?_
  refine Road.icmp_ge 10 21 bNwL_d10 rfl (fun q => absurd q (by rw [Decidable.not_not, show (0 : Int32) = Nat.toInt32 0 from rfl, Road.lt32 (by omega) (by omega)]; exact hi)) (fun hc10 => ?_)
  refine Road.iloadN 13 bNwL_d13 rfl ?_
  refine Road.ldcI 14 bNwL_d14 (hw _ (List.mem_of_getElem? (i := 314) rfl)) ?_
  refine Road.icmp_gt 16 21 bNwL_d16 rfl (fun q => absurd q (by rw [show (2147483639 : Int32) = Nat.toInt32 2147483639 from rfl, Road.lt32 (by omega) (by omega)]; omega)) (fun hc16 => ?_)
  refine Road.iloadN 19 bNwL_d19 rfl ?_
  exact Road.iretI 20 bNwL_d20 rfl (by decide) (by decide) (fun σ' m => ⟨rfl, rfl⟩)
def bNwC : Road.Bdy := (⟨"java/lang/AbstractStringBuilder", "newCapacity", "(I)I"⟩, jdk_68_method_10_code, 6, (some .int), { frames := 2, cells := 0, slots := 0, locals := 29 })
theorem bNwC_d0 : decode bNwC.bs 0 = .ok (.aload_n 0, 1) := by decide +kernel
theorem bNwC_d1 : decode bNwC.bs 1 = .ok (.getfield 15, 3) := by decide +kernel
theorem bNwC_d4 : decode bNwC.bs 4 = .ok (.arraylength, 1) := by decide +kernel
theorem bNwC_d5 : decode bNwC.bs 5 = .ok (.istore_n 2, 1) := by decide +kernel
theorem bNwC_d6 : decode bNwC.bs 6 = .ok (.iload_n 1, 1) := by decide +kernel
theorem bNwC_d7 : decode bNwC.bs 7 = .ok (.aload_n 0, 1) := by decide +kernel
theorem bNwC_d8 : decode bNwC.bs 8 = .ok (.getfield 22, 3) := by decide +kernel
theorem bNwC_d11 : decode bNwC.bs 11 = .ok (.ishl, 1) := by decide +kernel
theorem bNwC_d12 : decode bNwC.bs 12 = .ok (.istore_n 3, 1) := by decide +kernel
theorem bNwC_d13 : decode bNwC.bs 13 = .ok (.iload_n 3, 1) := by decide +kernel
theorem bNwC_d14 : decode bNwC.bs 14 = .ok (.iload_n 2, 1) := by decide +kernel
theorem bNwC_d15 : decode bNwC.bs 15 = .ok (.isub, 1) := by decide +kernel
theorem bNwC_d16 : decode bNwC.bs 16 = .ok (.istore 4, 2) := by decide +kernel
theorem bNwC_d18 : decode bNwC.bs 18 = .ok (.iload_n 2, 1) := by decide +kernel
theorem bNwC_d19 : decode bNwC.bs 19 = .ok (.iload 4, 2) := by decide +kernel
theorem bNwC_d21 : decode bNwC.bs 21 = .ok (.iload_n 2, 1) := by decide +kernel
theorem bNwC_d22 : decode bNwC.bs 22 = .ok (.iconst 2, 1) := by decide +kernel
theorem bNwC_d23 : decode bNwC.bs 23 = .ok (.aload_n 0, 1) := by decide +kernel
theorem bNwC_d24 : decode bNwC.bs 24 = .ok (.getfield 22, 3) := by decide +kernel
theorem bNwC_d27 : decode bNwC.bs 27 = .ok (.ishl, 1) := by decide +kernel
theorem bNwC_d28 : decode bNwC.bs 28 = .ok (.iadd, 1) := by decide +kernel
theorem bNwC_d29 : decode bNwC.bs 29 = .ok (.invokestatic 114, 3) := by decide +kernel
theorem bNwC_d32 : decode bNwC.bs 32 = .ok (.istore 5, 2) := by decide +kernel
theorem bNwC_d34 : decode bNwC.bs 34 = .ok (.iload 5, 2) := by decide +kernel
theorem bNwC_d36 : decode bNwC.bs 36 = .ok (.ldc 39, 2) := by decide +kernel
theorem bNwC_d38 : decode bNwC.bs 38 = .ok (.if_icmp .ne 13, 3) := by decide +kernel
theorem bNwC_d41 : decode bNwC.bs 41 = .ok (.new 120, 3) := by decide +kernel
theorem bNwC_d44 : decode bNwC.bs 44 = .ok (.dup, 1) := by decide +kernel
theorem bNwC_d45 : decode bNwC.bs 45 = .ok (.ldc 122, 2) := by decide +kernel
theorem bNwC_d47 : decode bNwC.bs 47 = .ok (.invokespecial 124, 3) := by decide +kernel
theorem bNwC_d50 : decode bNwC.bs 50 = .ok (.athrow, 1) := by decide +kernel
theorem bNwC_d51 : decode bNwC.bs 51 = .ok (.iload 5, 2) := by decide +kernel
theorem bNwC_d53 : decode bNwC.bs 53 = .ok (.aload_n 0, 1) := by decide +kernel
theorem bNwC_d54 : decode bNwC.bs 54 = .ok (.getfield 22, 3) := by decide +kernel
theorem bNwC_d57 : decode bNwC.bs 57 = .ok (.ishr, 1) := by decide +kernel
theorem bNwC_d58 : decode bNwC.bs 58 = .ok (.ireturn, 1) := by decide +kernel
theorem bNwC_pd : parseMethodDescriptor "(I)I" = some ⟨[.int], (some .int)⟩ := by decide +kernel
theorem bNwC_pn : plainFor bNwC.y = true := plainFor_of_name (show plainName "java/lang/AbstractStringBuilder" = true from by first | (simp [plainName, overriddenIn]; done) | decide +kernel)
theorem cNwC (l : Launch) (Z : State) (a0 : Array Value) (hw : ∀ d ∈ tables_1, d.before a0 Z = true) (n0 : Nat) (hEW : EW Z a0 consts_1) (q b : Addr) (cs : List Int32) (N : Nat) (m : Nat) (h0 : Heap) (σ : Addr → Prop) (S : Road.Sb Z h0 q b cs N) (hm : N < m) (hb : max m (2 * N + 2) ≤ 2147483639) :
    Road.Con l Z consts_1 n0 false bNwC [] σ #[(.ref q), (.int (Nat.toInt32 m))] h0 (fun v h2 _ => v = some (.int (Nat.toInt32 (max m (2 * N + 2)))) ∧ h0 = h2) := by
  have hN := S.small
  have hle := S.le
  obtain ⟨E, Fc, Fv, Fn, ⟨r, Ab, hr⟩, hlt⟩ := S
  refine Road.Con.of bNwC_pn hEW #[.val (.ref q), .val (.int (Nat.toInt32 m)), .unset, .unset, .unset, .unset] (fun m => Road.ent (Road.laid1 rfl (Road.laid1 rfl Road.laid0)) (k := 4) rfl rfl) ?_
  intro D hD
  refine Road.aloadN 0 bNwC_d0 rfl ?_
  refine Road.getfield 1 bNwC_d1 (hw _ (List.mem_of_getElem? (i := 50) rfl)) Via.refl Fv ?_
  refine Road.alen 4 (Nat.toInt32 N) bNwC_d4 Ab (n := N) (by rw [List.length_append, List.length_map]; exact hr) rfl ?_
  refine Road.istoreN 5 #[.val (.ref q), .val (.int (Nat.toInt32 m)), .val (.int (Nat.toInt32 N)), .unset, .unset, .unset] bNwC_d5 rfl ?_
  refine Road.iloadN 6 bNwC_d6 rfl ?_
  refine Road.aloadN 7 bNwC_d7 rfl ?_
  refine Road.getfield 8 bNwC_d8 (hw _ (List.mem_of_getElem? (i := 52) rfl)) Via.refl Fc ?_
  refine Road.ishl 11 bNwC_d11 ?_
  refine Road.nameI ?_
  intro z_1 hz_1
  obtain rfl : z_1 = (Nat.toInt32 m) := by rw [hz_1]; exact Road.shl0 _
  refine Road.istoreN 12 #[.val (.ref q), .val (.int (Nat.toInt32 m)), .val (.int (Nat.toInt32 N)), .val (.int (Nat.toInt32 m)), .unset, .unset] bNwC_d12 rfl ?_
  refine Road.iloadN 13 bNwC_d13 rfl ?_
  refine Road.iloadN 14 bNwC_d14 rfl ?_
  refine Road.isub 15 bNwC_d15 ?_
  refine Road.nameI ?_
  intro z_2 hz_2
  obtain rfl : z_2 = (Nat.toInt32 (m - N)) := by rw [hz_2]; exact Road.sub32n (by omega)
  refine Road.istore 16 #[.val (.ref q), .val (.int (Nat.toInt32 m)), .val (.int (Nat.toInt32 N)), .val (.int (Nat.toInt32 m)), .val (.int (Nat.toInt32 (m - N))), .unset] bNwC_d16 rfl ?_
  refine Road.iloadN 18 bNwC_d18 rfl ?_
  refine Road.iload 19 bNwC_d19 rfl ?_
  refine Road.iloadN 21 bNwC_d21 rfl ?_
  refine Road.iconst 22 (2 : Int32) bNwC_d22 rfl ?_
  refine Road.aloadN 23 bNwC_d23 rfl ?_
  refine Road.getfield 24 bNwC_d24 (hw _ (List.mem_of_getElem? (i := 52) rfl)) Via.refl Fc ?_
  refine Road.ishl 27 bNwC_d27 ?_
  refine Road.nameI ?_
  intro z_3 hz_3
  obtain rfl : z_3 = (2 : Int32) := by rw [hz_3]; exact Road.shl0 _
  refine Road.iadd 28 bNwC_d28 ?_
  refine Road.nameI ?_
  intro z_4 hz_4
  obtain rfl : z_4 = (Nat.toInt32 (N + 2)) := by rw [hz_4]; exact Road.add32n N 2
  refine Road.callS (B' := bNwL) 29 (argsL := [(.int (Nat.toInt32 N)), (.int (Nat.toInt32 (m - N))), (.int (Nat.toInt32 (N + 2)))]) (rest := []) 0 bNwC_d29 (hw _ (List.mem_of_getElem? (i := 309) rfl)) (hw _ (List.mem_of_getElem? (i := 310) rfl)) (hw _ (List.mem_of_getElem? (i := 311) rfl)) (hw _ (List.mem_of_getElem? (i := 312) rfl)) (by decide) (cNwL l Z a0 hw n0 hEW N (m - N) (N + 2) h0 σ (by omega) (by omega)) (lenOf bNwL_pd rfl) rfl rfl rfl (by decide) (by decide) (ce' := 0) (sl' := 0) rfl rfl (by decide) (by decide) ?_
  rintro _ h_5 σ_6 m_7 ⟨rfl, rfl⟩
  refine Road.Go.weaken (σ' := σ) m_7 (Nat.le_refl _) (Nat.le_refl _) ?_
  refine Road.nameI ?_
  intro z_9 hz_9
  obtain rfl : z_9 = (Nat.toInt32 (max m (2 * N + 2))) := by rw [hz_9]; congr 1; omega
  refine Road.istore 32 #[.val (.ref q), .val (.int (Nat.toInt32 m)), .val (.int (Nat.toInt32 N)), .val (.int (Nat.toInt32 m)), .val (.int (Nat.toInt32 (m - N))), .val (.int (Nat.toInt32 (max m (2 * N + 2))))] bNwC_d32 rfl ?_
  refine Road.iload 34 bNwC_d34 rfl ?_
  refine Road.ldcI 36 bNwC_d36 (hw _ (List.mem_of_getElem? (i := 315) rfl)) ?_
  refine Road.icmp_ne 38 51 bNwC_d38 rfl (fun hc38 => ?_) (fun q => absurd q (by rw [show (2147483647 : Int32) = Nat.toInt32 2147483647 from rfl, Road.eq32 (by omega) (by omega)]; omega))
  refine Road.iload 51 bNwC_d51 rfl ?_
  refine Road.aloadN 53 bNwC_d53 rfl ?_
  refine Road.getfield 54 bNwC_d54 (hw _ (List.mem_of_getElem? (i := 52) rfl)) Via.refl Fc ?_
  refine Road.ishr 57 bNwC_d57 ?_
  exact Road.iretI 58 bNwC_d58 rfl (by decide) (by decide) (fun σ' m => ⟨by rw [Road.shr0], rfl⟩)
def bEnG : Road.Bdy := (⟨"java/lang/AbstractStringBuilder", "ensureCapacityInternal", "(I)V"⟩, jdk_68_method_9_code, 3, none, { frames := 3, cells := 1, slots := 34, locals := 48 })
theorem bEnG_d0 : decode bEnG.bs 0 = .ok (.aload_n 0, 1) := by decide +kernel
theorem bEnG_d1 : decode bEnG.bs 1 = .ok (.getfield 15, 3) := by decide +kernel
theorem bEnG_d4 : decode bEnG.bs 4 = .ok (.arraylength, 1) := by decide +kernel
theorem bEnG_d5 : decode bEnG.bs 5 = .ok (.aload_n 0, 1) := by decide +kernel
theorem bEnG_d6 : decode bEnG.bs 6 = .ok (.getfield 22, 3) := by decide +kernel
theorem bEnG_d9 : decode bEnG.bs 9 = .ok (.ishr, 1) := by decide +kernel
theorem bEnG_d10 : decode bEnG.bs 10 = .ok (.istore_n 2, 1) := by decide +kernel
theorem bEnG_d11 : decode bEnG.bs 11 = .ok (.iload_n 1, 1) := by decide +kernel
theorem bEnG_d12 : decode bEnG.bs 12 = .ok (.iload_n 2, 1) := by decide +kernel
theorem bEnG_d13 : decode bEnG.bs 13 = .ok (.isub, 1) := by decide +kernel
theorem bEnG_d14 : decode bEnG.bs 14 = .ok (.ifCond .le 24, 3) := by decide +kernel
theorem bEnG_d17 : decode bEnG.bs 17 = .ok (.aload_n 0, 1) := by decide +kernel
theorem bEnG_d18 : decode bEnG.bs 18 = .ok (.aload_n 0, 1) := by decide +kernel
theorem bEnG_d19 : decode bEnG.bs 19 = .ok (.getfield 15, 3) := by decide +kernel
theorem bEnG_d22 : decode bEnG.bs 22 = .ok (.aload_n 0, 1) := by decide +kernel
theorem bEnG_d23 : decode bEnG.bs 23 = .ok (.iload_n 1, 1) := by decide +kernel
theorem bEnG_d24 : decode bEnG.bs 24 = .ok (.invokevirtual 104, 3) := by decide +kernel
theorem bEnG_d27 : decode bEnG.bs 27 = .ok (.aload_n 0, 1) := by decide +kernel
theorem bEnG_d28 : decode bEnG.bs 28 = .ok (.getfield 22, 3) := by decide +kernel
theorem bEnG_d31 : decode bEnG.bs 31 = .ok (.ishl, 1) := by decide +kernel
theorem bEnG_d32 : decode bEnG.bs 32 = .ok (.invokestatic 108, 3) := by decide +kernel
theorem bEnG_d35 : decode bEnG.bs 35 = .ok (.putfield 15, 3) := by decide +kernel
theorem bEnG_d38 : decode bEnG.bs 38 = .ok (.return_, 1) := by decide +kernel
theorem bEnG_pd : parseMethodDescriptor "(I)V" = some ⟨[.int], none⟩ := by decide +kernel
theorem bEnG_pn : plainFor bEnG.y = true := plainFor_of_name (show plainName "java/lang/AbstractStringBuilder" = true from by first | (simp [plainName, overriddenIn]; done) | decide +kernel)
theorem cEnG (l : Launch) (Z : State) (a0 : Array Value) (hw : ∀ d ∈ tables_1, d.before a0 Z = true) (n0 : Nat) (hEW : EW Z a0 consts_1) (q b : Addr) (cs : List Int32) (N : Nat) (m : Nat) (h0 : Heap) (σ : Addr → Prop) (S : Road.Sb Z h0 q b cs N) (hm : N < m) (hcap : max m (2 * N + 2) ≤ 34) (sq : σ q) :
    Road.Con l Z consts_1 n0 false bEnG [] σ #[(.ref q), (.int (Nat.toInt32 m))] h0 (fun v h2 s2 => v = none ∧ Keep h0 h2 [q] ∧ ∃ d, Road.Sb Z h2 q d cs (max m (2 * N + 2)) ∧ h0.size ≤ d ∧ s2 d) := by
  have S0 := S
  have hN := S.small
  have hle := S.le
  obtain ⟨E, Fc, Fv, Fn, ⟨r, Ab, hr⟩, hlt⟩ := S
  have nqb : q ≠ b := by obtain ⟨c, Ar, -⟩ := Ab; exact ne_arr E (hw _ (List.mem_of_getElem? (i := 35) rfl)) Ar
  refine Road.Con.of bEnG_pn hEW #[.val (.ref q), .val (.int (Nat.toInt32 m)), .unset] (fun m => Road.ent (Road.laid1 rfl (Road.laid1 rfl Road.laid0)) (k := 1) rfl rfl) ?_
  intro D hD
  refine Road.aloadN 0 bEnG_d0 rfl ?_
  refine Road.getfield 1 bEnG_d1 (hw _ (List.mem_of_getElem? (i := 50) rfl)) Via.refl Fv ?_
  refine Road.alen 4 (Nat.toInt32 N) bEnG_d4 Ab (n := N) (by rw [List.length_append, List.length_map]; exact hr) rfl ?_
  refine Road.aloadN 5 bEnG_d5 rfl ?_
  refine Road.getfield 6 bEnG_d6 (hw _ (List.mem_of_getElem? (i := 52) rfl)) Via.refl Fc ?_
  refine Road.ishr 9 bEnG_d9 ?_
  refine Road.nameI ?_
  intro z_1 hz_1
  obtain rfl : z_1 = (Nat.toInt32 N) := by rw [hz_1]; exact Road.shr0 _
  refine Road.istoreN 10 #[.val (.ref q), .val (.int (Nat.toInt32 m)), .val (.int (Nat.toInt32 N))] bEnG_d10 rfl ?_
  refine Road.iloadN 11 bEnG_d11 rfl ?_
  refine Road.iloadN 12 bEnG_d12 rfl ?_
  refine Road.isub 13 bEnG_d13 ?_
  refine Road.if_le 14 38 bEnG_d14 rfl (fun q => absurd q (by rw [Decidable.not_not, Road.gsub (by omega) hN]; omega)) (fun hc14 => ?_)
  refine Road.aloadN 17 bEnG_d17 rfl ?_
  refine Road.aloadN 18 bEnG_d18 rfl ?_
  refine Road.getfield 19 bEnG_d19 (hw _ (List.mem_of_getElem? (i := 50) rfl)) Via.refl Fv ?_
  refine Road.aloadN 22 bEnG_d22 rfl ?_
  refine Road.iloadN 23 bEnG_d23 rfl ?_
  refine Road.callP (B' := bNwC) (a := q) 24 (argsL := [(.int (Nat.toInt32 m))]) (rest := [(.ref b), (.ref q)]) "java/lang/StringBuilder" 2 bEnG_d24 (hw _ (List.mem_of_getElem? (i := 304) rfl)) (hw _ (List.mem_of_getElem? (i := 306) rfl)) (hw _ (List.mem_of_getElem? (i := 307) rfl)) (hw _ (List.mem_of_getElem? (i := 305) rfl)) (hw _ (List.mem_of_getElem? (i := 44) rfl)) (hw _ (List.mem_of_getElem? (i := 308) rfl)) (by decide) E (cNwC l Z a0 hw n0 hEW q b cs N m h0 σ S0 hm (by omega)) (lenOf bNwC_pd rfl) rfl rfl rfl (by decide) (by decide) (ce' := 0) (sl' := 0) rfl rfl (by decide) (by decide) ?_
  rintro _ h_2 σ_3 m_4 ⟨rfl, rfl⟩
  refine Road.Go.weaken (σ' := σ) m_4 (Nat.le_refl _) (Nat.le_refl _) ?_
  refine Road.aloadN 27 bEnG_d27 rfl ?_
  refine Road.getfield 28 bEnG_d28 (hw _ (List.mem_of_getElem? (i := 52) rfl)) Via.refl Fc ?_
  refine Road.ishl 31 bEnG_d31 ?_
  refine Road.nameI ?_
  intro z_6 hz_6
  obtain rfl : z_6 = (Nat.toInt32 (max m (2 * N + 2))) := by rw [hz_6]; exact Road.shl0 _
  refine Road.callS (B' := bCpO) 32 (argsL := [(.ref b), (.int (Nat.toInt32 (max m (2 * N + 2))))]) (rest := [(.ref q)]) 1 bEnG_d32 (hw _ (List.mem_of_getElem? (i := 316) rfl)) (hw _ (List.mem_of_getElem? (i := 317) rfl)) (hw _ (List.mem_of_getElem? (i := 105) rfl)) (hw _ (List.mem_of_getElem? (i := 318) rfl)) (by decide) (cCpO l Z a0 hw n0 hEW b _ (max m (2 * N + 2)) h0 σ Ab (by rw [List.length_append, List.length_map]; omega) (by omega)) (lenOf bCpO_pd rfl) rfl rfl rfl (by decide) (by decide) (ce' := 1) (sl' := 34) rfl rfl (by decide) (by decide) ?_
  rintro _ h_7 σ_8 m_9 ⟨d, rfl, gd, K_10, sd, Ad⟩
  have ne_q_d : q ≠ d := Nat.ne_of_lt (Nat.lt_of_lt_of_le E.lt gd)
  replace E := E.keep K_10
  replace Fc := Fc.keep K_10 nin0
  replace Fv := Fv.keep K_10 nin0
  replace Fn := Fn.keep K_10 nin0
  replace sq := m_9 _ sq
  refine Road.putfield 35 bEnG_d35 (hw _ (List.mem_of_getElem? (i := 50) rfl)) Via.refl Fv E (Or.inl (hw _ (List.mem_of_getElem? (i := 51) rfl))) (hw _ (List.mem_of_getElem? (i := 35) rfl)) (ty := (.array .byte)) (by decide) rfl rfl sq ?_
  intro h_14 W_12 K_13
  replace Fv := Fv.same W_12
  replace Fc := Fc.other W_12 (Or.inr (slot_ne (Or.inl (hw _ (List.mem_of_getElem? (i := 53) rfl))) (Or.inl (hw _ (List.mem_of_getElem? (i := 51) rfl))) (by decide) (t := .byte) (by decide) (t' := (.array .byte)) (by decide)))
  replace Fn := Fn.other W_12 (Or.inr (slot_ne (Or.inl (hw _ (List.mem_of_getElem? (i := 95) rfl))) (Or.inl (hw _ (List.mem_of_getElem? (i := 51) rfl))) (by decide) (t := .int) (by decide) (t' := (.array .byte)) (by decide)))
  replace E := E.keep K_13
  replace Ad := Ad.keep K_13 (ninS (Ne.symm ne_q_d) nin0)
  exact Road.ret 38 bEnG_d38 rfl (by decide) (by decide) (fun σ' m => ⟨rfl, (Road.keep_more K_10).trans K_13 (by simp), d, ⟨E, Fc, Fv, Fn, ⟨_, by rw [List.append_assoc] at Ad; exact Ad, by simp only [List.length_append, List.length_map, List.length_replicate]; omega⟩, hlt⟩, gd, m _ sd⟩)
def bAcG : Road.Bdy := (⟨"java/lang/AbstractStringBuilder", "append", "(C)Ljava/lang/AbstractStringBuilder;"⟩, jdk_68_method_31_code, 2, (some (.object "java/lang/AbstractStringBuilder")), { frames := 4, cells := 1, slots := 34, locals := 62 })
theorem bAcG_d0 : decode bAcG.bs 0 = .ok (.aload_n 0, 1) := by decide +kernel
theorem bAcG_d1 : decode bAcG.bs 1 = .ok (.aload_n 0, 1) := by decide +kernel
theorem bAcG_d2 : decode bAcG.bs 2 = .ok (.getfield 79, 3) := by decide +kernel
theorem bAcG_d5 : decode bAcG.bs 5 = .ok (.iconst 1, 1) := by decide +kernel
theorem bAcG_d6 : decode bAcG.bs 6 = .ok (.iadd, 1) := by decide +kernel
theorem bAcG_d7 : decode bAcG.bs 7 = .ok (.invokevirtual 100, 3) := by decide +kernel
theorem bAcG_d10 : decode bAcG.bs 10 = .ok (.aload_n 0, 1) := by decide +kernel
theorem bAcG_d11 : decode bAcG.bs 11 = .ok (.invokevirtual 83, 3) := by decide +kernel
theorem bAcG_d14 : decode bAcG.bs 14 = .ok (.ifCond .eq 31, 3) := by decide +kernel
theorem bAcG_d17 : decode bAcG.bs 17 = .ok (.iload_n 1, 1) := by decide +kernel
theorem bAcG_d18 : decode bAcG.bs 18 = .ok (.invokestatic 191, 3) := by decide +kernel
theorem bAcG_d21 : decode bAcG.bs 21 = .ok (.ifCond .eq 24, 3) := by decide +kernel
theorem bAcG_d24 : decode bAcG.bs 24 = .ok (.aload_n 0, 1) := by decide +kernel
theorem bAcG_d25 : decode bAcG.bs 25 = .ok (.getfield 15, 3) := by decide +kernel
theorem bAcG_d28 : decode bAcG.bs 28 = .ok (.aload_n 0, 1) := by decide +kernel
theorem bAcG_d29 : decode bAcG.bs 29 = .ok (.dup, 1) := by decide +kernel
theorem bAcG_d30 : decode bAcG.bs 30 = .ok (.getfield 79, 3) := by decide +kernel
theorem bAcG_d33 : decode bAcG.bs 33 = .ok (.dup_x1, 1) := by decide +kernel
theorem bAcG_d34 : decode bAcG.bs 34 = .ok (.iconst 1, 1) := by decide +kernel
theorem bAcG_d35 : decode bAcG.bs 35 = .ok (.iadd, 1) := by decide +kernel
theorem bAcG_d36 : decode bAcG.bs 36 = .ok (.putfield 79, 3) := by decide +kernel
theorem bAcG_d39 : decode bAcG.bs 39 = .ok (.iload_n 1, 1) := by decide +kernel
theorem bAcG_d40 : decode bAcG.bs 40 = .ok (.i2b, 1) := by decide +kernel
theorem bAcG_d41 : decode bAcG.bs 41 = .ok (.bastore, 1) := by decide +kernel
theorem bAcG_d42 : decode bAcG.bs 42 = .ok (.goto 33, 3) := by decide +kernel
theorem bAcG_d45 : decode bAcG.bs 45 = .ok (.aload_n 0, 1) := by decide +kernel
theorem bAcG_d46 : decode bAcG.bs 46 = .ok (.invokevirtual 83, 3) := by decide +kernel
theorem bAcG_d49 : decode bAcG.bs 49 = .ok (.ifCond .eq 7, 3) := by decide +kernel
theorem bAcG_d52 : decode bAcG.bs 52 = .ok (.aload_n 0, 1) := by decide +kernel
theorem bAcG_d53 : decode bAcG.bs 53 = .ok (.invokevirtual 195, 3) := by decide +kernel
theorem bAcG_d56 : decode bAcG.bs 56 = .ok (.aload_n 0, 1) := by decide +kernel
theorem bAcG_d57 : decode bAcG.bs 57 = .ok (.getfield 15, 3) := by decide +kernel
theorem bAcG_d60 : decode bAcG.bs 60 = .ok (.aload_n 0, 1) := by decide +kernel
theorem bAcG_d61 : decode bAcG.bs 61 = .ok (.dup, 1) := by decide +kernel
theorem bAcG_d62 : decode bAcG.bs 62 = .ok (.getfield 79, 3) := by decide +kernel
theorem bAcG_d65 : decode bAcG.bs 65 = .ok (.dup_x1, 1) := by decide +kernel
theorem bAcG_d66 : decode bAcG.bs 66 = .ok (.iconst 1, 1) := by decide +kernel
theorem bAcG_d67 : decode bAcG.bs 67 = .ok (.iadd, 1) := by decide +kernel
theorem bAcG_d68 : decode bAcG.bs 68 = .ok (.putfield 79, 3) := by decide +kernel
theorem bAcG_d71 : decode bAcG.bs 71 = .ok (.iload_n 1, 1) := by decide +kernel
theorem bAcG_d72 : decode bAcG.bs 72 = .ok (.invokestatic 197, 3) := by decide +kernel
theorem bAcG_d75 : decode bAcG.bs 75 = .ok (.aload_n 0, 1) := by decide +kernel
theorem bAcG_d76 : decode bAcG.bs 76 = .ok (.areturn, 1) := by decide +kernel
theorem bAcG_pd : parseMethodDescriptor "(C)Ljava/lang/AbstractStringBuilder;" = some ⟨[.char], (some (.object "java/lang/AbstractStringBuilder"))⟩ := by decide +kernel
theorem bAcG_pn : plainFor bAcG.y = true := plainFor_of_name (show plainName "java/lang/AbstractStringBuilder" = true from by first | (simp [plainName, overriddenIn]; done) | decide +kernel)
theorem cAcG (l : Launch) (Z : State) (a0 : Array Value) (hw : ∀ d ∈ tables_1, d.before a0 Z = true) (n0 : Nat) (hEW : EW Z a0 consts_1) (q b : Addr) (cs : List Int32) (N : Nat) (x : Int32) (h0 : Heap) (σ : Addr → Prop) (S : Road.Sb Z h0 q b cs N) (hx : 0 ≤ x.toInt ∧ x.toInt < 256) (hm : N < cs.length + 1) (hcap : max (cs.length + 1) (2 * N + 2) ≤ 34) (sq : σ q) (cp : Int32) (Hc : Sta Z Z.heap Road.SN "COMPACT_STRINGS" "Z" (.int cp)) (hcp : ¬ cp = 0) :
    Road.Con l Z consts_1 n0 false bAcG [] σ #[(.ref q), (.int x)] h0 (fun v h2 s2 => v = some (.ref q) ∧ Keep h0 h2 [q] ∧ ∃ d, Road.Sb Z h2 q d (cs ++ [x]) (max (cs.length + 1) (2 * N + 2)) ∧ h0.size ≤ d ∧ s2 d) := by
  have S0 := S
  have hN := S.small
  have hle := S.le
  obtain ⟨E, Fc, Fv, Fn, ⟨r, Ab, hr⟩, hlt⟩ := S
  have nqb : q ≠ b := by obtain ⟨c, Ar, -⟩ := Ab; exact ne_arr E (hw _ (List.mem_of_getElem? (i := 35) rfl)) Ar
  refine Road.Con.of bAcG_pn hEW #[.val (.ref q), .val (.int x)] (fun m => Road.ent (Road.laid1 rfl (Road.laid1 rfl Road.laid0)) (k := 0) rfl rfl) ?_
  intro D hD
  refine Road.aloadN 0 bAcG_d0 rfl ?_
  refine Road.aloadN 1 bAcG_d1 rfl ?_
  refine Road.getfield 2 bAcG_d2 (hw _ (List.mem_of_getElem? (i := 94) rfl)) Via.refl Fn ?_
  refine Road.iconst 5 (1 : Int32) bAcG_d5 rfl ?_
  refine Road.iadd 6 bAcG_d6 ?_
  refine Road.nameI ?_
  intro z_1 hz_1
  obtain rfl : z_1 = (Nat.toInt32 (cs.length + 1)) := by rw [hz_1]; exact Road.succ32 _
  refine Road.callP (B' := bEnG) (a := q) 7 (argsL := [(.int (Nat.toInt32 (cs.length + 1)))]) (rest := []) "java/lang/StringBuilder" 0 bAcG_d7 (hw _ (List.mem_of_getElem? (i := 197) rfl)) (hw _ (List.mem_of_getElem? (i := 199) rfl)) (hw _ (List.mem_of_getElem? (i := 200) rfl)) (hw _ (List.mem_of_getElem? (i := 198) rfl)) (hw _ (List.mem_of_getElem? (i := 44) rfl)) (hw _ (List.mem_of_getElem? (i := 201) rfl)) (by decide) E (cEnG l Z a0 hw n0 hEW q b cs N (cs.length + 1) h0 σ S0 hm hcap sq) (lenOf bEnG_pd rfl) rfl rfl rfl (by decide) (by decide) (ce' := 1) (sl' := 34) rfl rfl (by decide) (by decide) ?_
  rintro _ h_2 σ_3 m_4 ⟨rfl, K_5, d, S2, gd, sd⟩
  replace sq := m_4 _ sq
  clear E Fc Fv Fn Ab
  obtain ⟨E, Fc, Fv, Fn, ⟨r2, Ab, hr2⟩, -⟩ := S2
  have nqd : q ≠ d := by obtain ⟨c, Ar, -⟩ := Ab; exact ne_arr E (hw _ (List.mem_of_getElem? (i := 35) rfl)) Ar
  refine Road.aloadN 10 bAcG_d10 rfl ?_
  refine Road.callV (B' := bAbL) (a := q) 11 (argsL := []) (rest := []) "java/lang/StringBuilder" 0 bAcG_d11 (hw _ (List.mem_of_getElem? (i := 255) rfl)) (hw _ (List.mem_of_getElem? (i := 97) rfl)) (fun vm hz => Road.notFace_sib (args := #[]) (mv (s := D.s.setVm vm) hz (hw _ (List.mem_of_getElem? (i := 83) rfl))) rfl) (hw _ (List.mem_of_getElem? (i := 99) rfl)) (hw _ (List.mem_of_getElem? (i := 98) rfl)) (hw _ (List.mem_of_getElem? (i := 44) rfl)) (hw _ (List.mem_of_getElem? (i := 100) rfl)) (by decide) E (cAbL l Z a0 hw n0 hEW q h_2 σ_3 Fc cp Hc hcp) (lenOf bAbL_pd rfl) rfl rfl rfl (by decide) (by decide) (ce' := 1) (sl' := 34) rfl rfl (by decide) (by decide) ?_
  rintro _ h_7 σ_8 m_9 ⟨rfl, rfl⟩
  refine Road.Go.weaken (σ' := σ_3) m_9 (Nat.le_refl _) (Nat.le_refl _) ?_
  refine Road.if_eq 14 45 bAcG_d14 rfl (fun q => absurd q (by decide)) (fun hc14 => ?_)
  refine Road.iloadN 17 bAcG_d17 rfl ?_
  refine Road.callS (B' := bCan) 18 (argsL := [(.int x)]) (rest := []) 0 bAcG_d18 (hw _ (List.mem_of_getElem? (i := 256) rfl)) (hw _ (List.mem_of_getElem? (i := 142) rfl)) (hw _ (List.mem_of_getElem? (i := 143) rfl)) (hw _ (List.mem_of_getElem? (i := 144) rfl)) (by decide) (cCan l Z a0 hw n0 hEW x h_2 σ_3 hx) (lenOf bCan_pd rfl) rfl rfl rfl (by decide) (by decide) (ce' := 1) (sl' := 34) rfl rfl (by decide) (by decide) ?_
  rintro _ h_11 σ_12 m_13 ⟨rfl, rfl⟩
  refine Road.Go.weaken (σ' := σ_3) m_13 (Nat.le_refl _) (Nat.le_refl _) ?_
  refine Road.if_eq 21 45 bAcG_d21 rfl (fun q => absurd q (by decide)) (fun hc21 => ?_)
  refine Road.aloadN 24 bAcG_d24 rfl ?_
  refine Road.getfield 25 bAcG_d25 (hw _ (List.mem_of_getElem? (i := 50) rfl)) Via.refl Fv ?_
  refine Road.aloadN 28 bAcG_d28 rfl ?_
  refine Road.dup 29 bAcG_d29 ?_
  refine Road.getfield 30 bAcG_d30 (hw _ (List.mem_of_getElem? (i := 94) rfl)) Via.refl Fn ?_
  refine Road.dupX1 33 bAcG_d33 ?_
  refine Road.iconst 34 (1 : Int32) bAcG_d34 rfl ?_
  refine Road.iadd 35 bAcG_d35 ?_
  refine Road.nameI ?_
  intro z_15 hz_15
  obtain rfl : z_15 = (Nat.toInt32 (cs ++ [x]).length) := by rw [hz_15]; rw [Road.succ32, List.length_append]; rfl
  refine Road.putfield 36 bAcG_d36 (hw _ (List.mem_of_getElem? (i := 94) rfl)) Via.refl Fn E (Or.inl (hw _ (List.mem_of_getElem? (i := 95) rfl))) (hw _ (List.mem_of_getElem? (i := 35) rfl)) (ty := .int) (by decide) rfl rfl sq ?_
  intro h_18 W_16 K_17
  replace Fn := Fn.same W_16
  replace Fc := Fc.other W_16 (Or.inr (slot_ne (Or.inl (hw _ (List.mem_of_getElem? (i := 53) rfl))) (Or.inl (hw _ (List.mem_of_getElem? (i := 95) rfl))) (by decide) (t := .byte) (by decide) (t' := .int) (by decide)))
  replace Fv := Fv.other W_16 (Or.inr (slot_ne (Or.inl (hw _ (List.mem_of_getElem? (i := 51) rfl))) (Or.inl (hw _ (List.mem_of_getElem? (i := 95) rfl))) (by decide) (t := (.array .byte)) (by decide) (t' := .int) (by decide)))
  replace E := E.keep K_17
  replace Ab := Ab.keep K_17 (ninS (Ne.symm nqd) nin0)
  refine Road.iloadN 39 bAcG_d39 rfl ?_
  refine Road.i2b 40 bAcG_d40 ?_
  refine Road.bastore 41 cs.length (Int8.toInt32 (Int32.toInt8 x)) bAcG_d41 Ab (Road.n32 (by omega)) (by rw [List.length_append, List.length_map]; omega) (Road.nar_byte _) sd ?_
  intro h_19 K_20 A_21
  replace E := E.keep K_20
  replace Fc := Fc.keep K_20 (ninS nqd nin0)
  replace Fv := Fv.keep K_20 (ninS nqd nin0)
  replace Fn := Fn.keep K_20 (ninS nqd nin0)
  replace Ab := A_21
  rw [show (Value.int (Int8.toInt32 (Int32.toInt8 x))) = Road.byt x from rfl, Road.put_chr _ _ _ (by omega)] at Ab
  refine Road.goto 42 75 bAcG_d42 rfl ?_
  refine Road.aloadN 75 bAcG_d75 rfl ?_
  exact Road.aret 76 bAcG_d76 (t := (.object "java/lang/AbstractStringBuilder")) rfl rfl rfl (by decide) (by decide) (fun σ' m => ⟨rfl, ((K_5.trans K_17 (by simp)).trans K_20 (by intro x hx; cases List.mem_singleton.mp hx; exact Or.inr gd)), d, ⟨E, Fc, Fv, Fn, ⟨_, Ab, by rw [List.length_append, List.length_drop]; simp only [List.length_singleton]; omega⟩, (fun c hc => (List.mem_append.mp hc).elim (hlt c) (fun hy => by rw [List.mem_singleton.mp hy]; exact hx))⟩, gd, m _ sd⟩)
def bScG : Road.Bdy := (⟨"java/lang/StringBuilder", "append", "(C)Ljava/lang/StringBuilder;"⟩, jdk_67_method_14_code, 2, (some (.object "java/lang/StringBuilder")), { frames := 5, cells := 1, slots := 34, locals := 75 })
theorem bScG_d0 : decode bScG.bs 0 = .ok (.aload_n 0, 1) := by decide +kernel
theorem bScG_d1 : decode bScG.bs 1 = .ok (.iload_n 1, 1) := by decide +kernel
theorem bScG_d2 : decode bScG.bs 2 = .ok (.invokespecial 50, 3) := by decide +kernel
theorem bScG_d5 : decode bScG.bs 5 = .ok (.pop, 1) := by decide +kernel
theorem bScG_d6 : decode bScG.bs 6 = .ok (.aload_n 0, 1) := by decide +kernel
theorem bScG_d7 : decode bScG.bs 7 = .ok (.areturn, 1) := by decide +kernel
theorem bScG_pd : parseMethodDescriptor "(C)Ljava/lang/StringBuilder;" = some ⟨[.char], (some (.object "java/lang/StringBuilder"))⟩ := by decide +kernel
theorem bScG_pn : plainFor bScG.y = true := plainFor_of_name (show plainName "java/lang/StringBuilder" = true from by first | (simp [plainName, overriddenIn]; done) | decide +kernel)
theorem cScG (l : Launch) (Z : State) (a0 : Array Value) (hw : ∀ d ∈ tables_1, d.before a0 Z = true) (n0 : Nat) (hEW : EW Z a0 consts_1) (q b : Addr) (cs : List Int32) (N : Nat) (x : Int32) (h0 : Heap) (σ : Addr → Prop) (S : Road.Sb Z h0 q b cs N) (hx : 0 ≤ x.toInt ∧ x.toInt < 256) (hm : N < cs.length + 1) (hcap : max (cs.length + 1) (2 * N + 2) ≤ 34) (sq : σ q) (cp : Int32) (Hc : Sta Z Z.heap Road.SN "COMPACT_STRINGS" "Z" (.int cp)) (hcp : ¬ cp = 0) :
    Road.Con l Z consts_1 n0 false bScG [] σ #[(.ref q), (.int x)] h0 (fun v h2 s2 => v = some (.ref q) ∧ Keep h0 h2 [q] ∧ ∃ d, Road.Sb Z h2 q d (cs ++ [x]) (max (cs.length + 1) (2 * N + 2)) ∧ h0.size ≤ d ∧ s2 d) := by
  refine Road.Con.of bScG_pn hEW #[.val (.ref q), .val (.int x)] (fun m => Road.ent (Road.laid1 rfl (Road.laid1 rfl Road.laid0)) (k := 0) rfl rfl) ?_
  intro D hD
  refine Road.aloadN 0 bScG_d0 rfl ?_
  refine Road.iloadN 1 bScG_d1 rfl ?_
  refine Road.callUp (B' := bAcG) (a := q) 2 (argsL := [(.int x)]) (rest := []) "java/lang/StringBuilder" 0 bScG_d2 (hw _ (List.mem_of_getElem? (i := 251) rfl)) (Road.notFace_sib (hw _ (List.mem_of_getElem? (i := 83) rfl)) rfl) (hw _ (List.mem_of_getElem? (i := 252) rfl)) (hw _ (List.mem_of_getElem? (i := 92) rfl)) (hw _ (List.mem_of_getElem? (i := 44) rfl)) (hw _ (List.mem_of_getElem? (i := 254) rfl)) (by decide) (by decide) S.1 (cAcG l Z a0 hw n0 hEW q b cs N x h0 σ S hx hm hcap sq cp Hc hcp) (lenOf bAcG_pd rfl) rfl rfl rfl (by decide) (by decide) (ce' := 1) (sl' := 34) rfl rfl (by decide) (by decide) ?_
  rintro _ h_1 σ_2 m_3 ⟨rfl, K_4, d, S2, gd, sd⟩
  refine Road.pop 5 bScG_d5 ?_
  refine Road.aloadN 6 bScG_d6 rfl ?_
  exact Road.aret 7 bScG_d7 (t := (.object "java/lang/StringBuilder")) rfl rfl rfl (by decide) (by decide) (fun σ' m => ⟨rfl, K_4, d, S2, gd, m _ sd⟩)
def bChL : Road.Bdy := (⟨"java/util/Arrays", "checkLength", "(II)V"⟩, jdk_65_method_131_code, 2, none, { frames := 0, cells := 0, slots := 0, locals := 0 })
theorem bChL_d0 : decode bChL.bs 0 = .ok (.iload_n 1, 1) := by decide +kernel
theorem bChL_d1 : decode bChL.bs 1 = .ok (.iload_n 0, 1) := by decide +kernel
theorem bChL_d2 : decode bChL.bs 2 = .ok (.if_icmp .ge 35, 3) := by decide +kernel
theorem bChL_d5 : decode bChL.bs 5 = .ok (.new 43, 3) := by decide +kernel
theorem bChL_d8 : decode bChL.bs 8 = .ok (.dup, 1) := by decide +kernel
theorem bChL_d9 : decode bChL.bs 9 = .ok (.new 45, 3) := by decide +kernel
theorem bChL_d12 : decode bChL.bs 12 = .ok (.dup, 1) := by decide +kernel
theorem bChL_d13 : decode bChL.bs 13 = .ok (.invokespecial 47, 3) := by decide +kernel
theorem bChL_d16 : decode bChL.bs 16 = .ok (.iload_n 0, 1) := by decide +kernel
theorem bChL_d17 : decode bChL.bs 17 = .ok (.invokevirtual 54, 3) := by decide +kernel
theorem bChL_d20 : decode bChL.bs 20 = .ok (.ldc_w 337, 3) := by decide +kernel
theorem bChL_d23 : decode bChL.bs 23 = .ok (.invokevirtual 50, 3) := by decide +kernel
theorem bChL_d26 : decode bChL.bs 26 = .ok (.iload_n 1, 1) := by decide +kernel
theorem bChL_d27 : decode bChL.bs 27 = .ok (.invokevirtual 54, 3) := by decide +kernel
theorem bChL_d30 : decode bChL.bs 30 = .ok (.invokevirtual 61, 3) := by decide +kernel
theorem bChL_d33 : decode bChL.bs 33 = .ok (.invokespecial 65, 3) := by decide +kernel
theorem bChL_d36 : decode bChL.bs 36 = .ok (.athrow, 1) := by decide +kernel
theorem bChL_d37 : decode bChL.bs 37 = .ok (.return_, 1) := by decide +kernel
theorem bChL_pd : parseMethodDescriptor "(II)V" = some ⟨[.int, .int], none⟩ := by decide +kernel
theorem bChL_pn : plainFor bChL.y = true := plainFor_of_name (show plainName "java/util/Arrays" = true from by first | (simp [plainName, overriddenIn]; done) | decide +kernel)
theorem cChL (l : Launch) (Z : State) (a0 : Array Value) (hw : ∀ d ∈ tables_1, d.before a0 Z = true) (n0 : Nat) (hEW : EW Z a0 consts_1) (n : Nat) (h0 : Heap) (σ : Addr → Prop) (hn : n < 2147483648) :
    Road.Con l Z consts_1 n0 false bChL [] σ #[(.int (0 : Int32)), (.int (Nat.toInt32 n))] h0 (fun v h2 _ => v = none ∧ h0 = h2) := by
  refine Road.Con.of bChL_pn hEW #[.val (.int (0 : Int32)), .val (.int (Nat.toInt32 n))] (fun m => Road.ent (Road.laid1 rfl (Road.laid1 rfl Road.laid0)) (k := 0) rfl rfl) ?_
  intro D hD
  refine Road.iloadN 0 bChL_d0 rfl ?_
  refine Road.iloadN 1 bChL_d1 rfl ?_
  refine Road.icmp_ge 2 37 bChL_d2 rfl (fun hc2 => ?_) (fun q => absurd q (by rw [show (0 : Int32) = Nat.toInt32 0 from rfl, Road.lt32 hn (by omega)]; omega))
  exact Road.ret 37 bChL_d37 rfl (by decide) (by decide) (fun σ' m => ⟨rfl, rfl⟩)
def bCrB : Road.Bdy := (⟨"java/util/Arrays", "copyOfRangeByte", "([BII)[B"⟩, jdk_65_method_133_code, 5, (some (.array .byte)), { frames := 1, cells := 1, slots := 17, locals := 22 })
theorem bCrB_d0 : decode bCrB.bs 0 = .ok (.iload_n 1, 1) := by decide +kernel
theorem bCrB_d1 : decode bCrB.bs 1 = .ok (.iload_n 2, 1) := by decide +kernel
theorem bCrB_d2 : decode bCrB.bs 2 = .ok (.invokestatic 343, 3) := by decide +kernel
theorem bCrB_d5 : decode bCrB.bs 5 = .ok (.iload_n 2, 1) := by decide +kernel
theorem bCrB_d6 : decode bCrB.bs 6 = .ok (.iload_n 1, 1) := by decide +kernel
theorem bCrB_d7 : decode bCrB.bs 7 = .ok (.isub, 1) := by decide +kernel
theorem bCrB_d8 : decode bCrB.bs 8 = .ok (.istore_n 3, 1) := by decide +kernel
theorem bCrB_d9 : decode bCrB.bs 9 = .ok (.iload_n 3, 1) := by decide +kernel
theorem bCrB_d10 : decode bCrB.bs 10 = .ok (.newarray .byte, 2) := by decide +kernel
theorem bCrB_d12 : decode bCrB.bs 12 = .ok (.astore 4, 2) := by decide +kernel
theorem bCrB_d14 : decode bCrB.bs 14 = .ok (.aload_n 0, 1) := by decide +kernel
theorem bCrB_d15 : decode bCrB.bs 15 = .ok (.iload_n 1, 1) := by decide +kernel
theorem bCrB_d16 : decode bCrB.bs 16 = .ok (.aload 4, 2) := by decide +kernel
theorem bCrB_d18 : decode bCrB.bs 18 = .ok (.iconst 0, 1) := by decide +kernel
theorem bCrB_d19 : decode bCrB.bs 19 = .ok (.aload_n 0, 1) := by decide +kernel
theorem bCrB_d20 : decode bCrB.bs 20 = .ok (.arraylength, 1) := by decide +kernel
theorem bCrB_d21 : decode bCrB.bs 21 = .ok (.iload_n 1, 1) := by decide +kernel
theorem bCrB_d22 : decode bCrB.bs 22 = .ok (.isub, 1) := by decide +kernel
theorem bCrB_d23 : decode bCrB.bs 23 = .ok (.iload_n 3, 1) := by decide +kernel
theorem bCrB_d24 : decode bCrB.bs 24 = .ok (.invokestatic 304, 3) := by decide +kernel
theorem bCrB_d27 : decode bCrB.bs 27 = .ok (.invokestatic 150, 3) := by decide +kernel
theorem bCrB_d30 : decode bCrB.bs 30 = .ok (.aload 4, 2) := by decide +kernel
theorem bCrB_d32 : decode bCrB.bs 32 = .ok (.areturn, 1) := by decide +kernel
theorem bCrB_pd : parseMethodDescriptor "([BII)[B" = some ⟨[(.array .byte), .int, .int], (some (.array .byte))⟩ := by decide +kernel
theorem bCrB_pn : plainFor bCrB.y = true := plainFor_of_name (show plainName "java/util/Arrays" = true from by first | (simp [plainName, overriddenIn]; done) | decide +kernel)
theorem cCrB (l : Launch) (Z : State) (a0 : Array Value) (hw : ∀ d ∈ tables_1, d.before a0 Z = true) (n0 : Nat) (hEW : EW Z a0 consts_1) (b : Addr) (vs : List Value) (n : Nat) (h0 : Heap) (σ : Addr → Prop) (A : Road.Ary Z h0 b .byte vs) (hn : n < vs.length) (hcap : n ≤ 17) :
    Road.Con l Z consts_1 n0 false bCrB [] σ #[(.ref b), (.int (0 : Int32)), (.int (Nat.toInt32 n))] h0 (fun v h2 s2 => ∃ d, v = some (.ref d) ∧ h0.size ≤ d ∧ Keep h0 h2 [] ∧ s2 d ∧ Road.Ary Z h2 d .byte (vs.take n)) := by
  have hsm := A.small
  refine Road.Con.of bCrB_pn hEW #[.val (.ref b), .val (.int (0 : Int32)), .val (.int (Nat.toInt32 n)), .unset, .unset] (fun m => Road.ent (Road.laid1 rfl (Road.laid1 rfl (Road.laid1 rfl Road.laid0))) (k := 2) rfl rfl) ?_
  intro D hD
  refine Road.iloadN 0 bCrB_d0 rfl ?_
  refine Road.iloadN 1 bCrB_d1 rfl ?_
  refine Road.callS (B' := bChL) 2 (argsL := [(.int (0 : Int32)), (.int (Nat.toInt32 n))]) (rest := []) 0 bCrB_d2 (hw _ (List.mem_of_getElem? (i := 110) rfl)) (hw _ (List.mem_of_getElem? (i := 111) rfl)) (hw _ (List.mem_of_getElem? (i := 105) rfl)) (hw _ (List.mem_of_getElem? (i := 112) rfl)) (by decide) (cChL l Z a0 hw n0 hEW n h0 σ (by omega)) (lenOf bChL_pd rfl) rfl rfl rfl (by decide) (by decide) (ce' := 0) (sl' := 0) rfl rfl (by decide) (by decide) ?_
  rintro _ h_1 σ_2 m_3 ⟨rfl, rfl⟩
  refine Road.Go.weaken (σ' := σ) m_3 (Nat.le_refl _) (Nat.le_refl _) ?_
  refine Road.iloadN 5 bCrB_d5 rfl ?_
  refine Road.iloadN 6 bCrB_d6 rfl ?_
  refine Road.isub 7 bCrB_d7 ?_
  refine Road.nameI ?_
  intro z_5 hz_5
  obtain rfl : z_5 = (Nat.toInt32 n) := by rw [hz_5]; exact Int32.sub_zero _
  refine Road.istoreN 8 #[.val (.ref b), .val (.int (0 : Int32)), .val (.int (Nat.toInt32 n)), .val (.int (Nat.toInt32 n)), .unset] bCrB_d8 rfl ?_
  refine Road.iloadN 9 bCrB_d9 rfl ?_
  refine Road.newarray 10 .byte n 17 bCrB_d10 rfl (hw _ (List.mem_of_getElem? (i := 49) rfl)) (Road.n32 (by omega)) hcap (by decide) (ce' := 1) (sl' := 17) rfl rfl (by decide) (by decide) ?_
  intro d h_6 σ_7 g_8 K_9 lt_10 m_11 s_12 Ad
  have ne_b_d : b ≠ d := Nat.ne_of_lt (Nat.lt_of_lt_of_le A.lt (Nat.le_of_eq g_8.symm))
  replace A := A.keep K_9 nin0
  refine Road.astore 12 #[.val (.ref b), .val (.int (0 : Int32)), .val (.int (Nat.toInt32 n)), .val (.int (Nat.toInt32 n)), .val (.ref d)] bCrB_d12 rfl ?_
  refine Road.aloadN 14 bCrB_d14 rfl ?_
  refine Road.iloadN 15 bCrB_d15 rfl ?_
  refine Road.aload 16 bCrB_d16 rfl ?_
  refine Road.iconst 18 (0 : Int32) bCrB_d18 rfl ?_
  refine Road.aloadN 19 bCrB_d19 rfl ?_
  refine Road.alen 20 (Nat.toInt32 vs.length) bCrB_d20 A (n := vs.length) rfl rfl ?_
  refine Road.iloadN 21 bCrB_d21 rfl ?_
  refine Road.isub 22 bCrB_d22 ?_
  refine Road.nameI ?_
  intro z_13 hz_13
  obtain rfl : z_13 = (Nat.toInt32 vs.length) := by rw [hz_13]; exact Int32.sub_zero _
  refine Road.iloadN 23 bCrB_d23 rfl ?_
  refine Road.callS (B' := bMin) 24 (argsL := [(.int (Nat.toInt32 vs.length)), (.int (Nat.toInt32 n))]) (rest := [(.int (0 : Int32)), (.ref d), (.int (0 : Int32)), (.ref b)]) 4 bCrB_d24 (hw _ (List.mem_of_getElem? (i := 113) rfl)) (hw _ (List.mem_of_getElem? (i := 114) rfl)) (hw _ (List.mem_of_getElem? (i := 115) rfl)) (hw _ (List.mem_of_getElem? (i := 116) rfl)) (by decide) (cMin l Z a0 hw n0 hEW vs.length n h_6 σ_7 hsm (by omega)) (lenOf bMin_pd rfl) rfl rfl rfl (by decide) (by decide) (ce' := 1) (sl' := 17) rfl rfl (by decide) (by decide) ?_
  rintro _ h_14 σ_15 m_16 ⟨rfl, rfl⟩
  refine Road.Go.weaken (σ' := σ_7) m_16 (Nat.le_refl _) (Nat.le_refl _) ?_
  refine Road.acopy 27 0 0 n 0 bCrB_d27 (hw _ (List.mem_of_getElem? (i := 117) rfl)) (hw _ (List.mem_of_getElem? (i := 120) rfl)) (hw _ (List.mem_of_getElem? (i := 118) rfl)) (hw _ (List.mem_of_getElem? (i := 119) rfl)) A Ad rfl rfl rfl (by rw [Nat.min_eq_right (by omega)]; exact Road.n32 (by omega)) (by omega) (by rw [List.length_replicate]; omega) s_12 rfl rfl (by decide) (by decide) ?_
  intro h_18 K_19 Ae
  replace A := A.keep K_19 (ninS ne_b_d nin0)
  refine Road.aload 30 bCrB_d30 rfl ?_
  exact Road.aret 32 bCrB_d32 (t := (.array .byte)) rfl rfl rfl (by decide) (by decide) (fun σ' m => ⟨d, rfl, Nat.le_of_eq g_8.symm, K_9.trans K_19 (by intro x hx; cases List.mem_singleton.mp hx; exact Or.inr (Nat.le_of_eq g_8.symm)), m _ s_12, by simpa using Ae⟩)
def bCrR : Road.Bdy := (⟨"java/util/Arrays", "copyOfRange", "([BII)[B"⟩, jdk_65_method_132_code, 3, (some (.array .byte)), { frames := 2, cells := 1, slots := 17, locals := 38 })
theorem bCrR_d0 : decode bCrR.bs 0 = .ok (.iload_n 1, 1) := by decide +kernel
theorem bCrR_d1 : decode bCrR.bs 1 = .ok (.ifCond .ne 9, 3) := by decide +kernel
theorem bCrR_d4 : decode bCrR.bs 4 = .ok (.iload_n 2, 1) := by decide +kernel
theorem bCrR_d5 : decode bCrR.bs 5 = .ok (.aload_n 0, 1) := by decide +kernel
theorem bCrR_d6 : decode bCrR.bs 6 = .ok (.arraylength, 1) := by decide +kernel
theorem bCrR_d7 : decode bCrR.bs 7 = .ok (.if_icmp .eq 10, 3) := by decide +kernel
theorem bCrR_d10 : decode bCrR.bs 10 = .ok (.aload_n 0, 1) := by decide +kernel
theorem bCrR_d11 : decode bCrR.bs 11 = .ok (.iload_n 1, 1) := by decide +kernel
theorem bCrR_d12 : decode bCrR.bs 12 = .ok (.iload_n 2, 1) := by decide +kernel
theorem bCrR_d13 : decode bCrR.bs 13 = .ok (.invokestatic 339, 3) := by decide +kernel
theorem bCrR_d16 : decode bCrR.bs 16 = .ok (.areturn, 1) := by decide +kernel
theorem bCrR_d17 : decode bCrR.bs 17 = .ok (.aload_n 0, 1) := by decide +kernel
theorem bCrR_d18 : decode bCrR.bs 18 = .ok (.invokevirtual 310, 3) := by decide +kernel
theorem bCrR_d21 : decode bCrR.bs 21 = .ok (.checkcast 311, 3) := by decide +kernel
theorem bCrR_d24 : decode bCrR.bs 24 = .ok (.areturn, 1) := by decide +kernel
theorem bCrR_pd : parseMethodDescriptor "([BII)[B" = some ⟨[(.array .byte), .int, .int], (some (.array .byte))⟩ := by decide +kernel
theorem bCrR_pn : plainFor bCrR.y = true := plainFor_of_name (show plainName "java/util/Arrays" = true from by first | (simp [plainName, overriddenIn]; done) | decide +kernel)
theorem cCrR (l : Launch) (Z : State) (a0 : Array Value) (hw : ∀ d ∈ tables_1, d.before a0 Z = true) (n0 : Nat) (hEW : EW Z a0 consts_1) (b : Addr) (vs : List Value) (n : Nat) (h0 : Heap) (σ : Addr → Prop) (A : Road.Ary Z h0 b .byte vs) (hn : n < vs.length) (hcap : n ≤ 17) :
    Road.Con l Z consts_1 n0 false bCrR [] σ #[(.ref b), (.int (0 : Int32)), (.int (Nat.toInt32 n))] h0 (fun v h2 s2 => ∃ d, v = some (.ref d) ∧ h0.size ≤ d ∧ Keep h0 h2 [] ∧ s2 d ∧ Road.Ary Z h2 d .byte (vs.take n)) := by
  have hsm := A.small
  refine Road.Con.of bCrR_pn hEW #[.val (.ref b), .val (.int (0 : Int32)), .val (.int (Nat.toInt32 n))] (fun m => Road.ent (Road.laid1 rfl (Road.laid1 rfl (Road.laid1 rfl Road.laid0))) (k := 0) rfl rfl) ?_
  intro D hD
  refine Road.iloadN 0 bCrR_d0 rfl ?_
  refine Road.if_ne 1 10 bCrR_d1 rfl (fun q => absurd q (by decide)) (fun hc1 => ?_)
  refine Road.iloadN 4 bCrR_d4 rfl ?_
  refine Road.aloadN 5 bCrR_d5 rfl ?_
  refine Road.alen 6 (Nat.toInt32 vs.length) bCrR_d6 A (n := vs.length) rfl rfl ?_
  refine Road.icmp_eq 7 17 bCrR_d7 rfl (fun q => absurd q (by rw [Road.eq32 (by omega) hsm]; omega)) (fun hc7 => ?_)
  refine Road.aloadN 10 bCrR_d10 rfl ?_
  refine Road.iloadN 11 bCrR_d11 rfl ?_
  refine Road.iloadN 12 bCrR_d12 rfl ?_
  refine Road.callS (B' := bCrB) 13 (argsL := [(.ref b), (.int (0 : Int32)), (.int (Nat.toInt32 n))]) (rest := []) 0 bCrR_d13 (hw _ (List.mem_of_getElem? (i := 107) rfl)) (hw _ (List.mem_of_getElem? (i := 108) rfl)) (hw _ (List.mem_of_getElem? (i := 105) rfl)) (hw _ (List.mem_of_getElem? (i := 109) rfl)) (by decide) (cCrB l Z a0 hw n0 hEW b vs n h0 σ A hn hcap) (lenOf bCrB_pd rfl) rfl rfl rfl (by decide) (by decide) (ce' := 1) (sl' := 17) rfl rfl (by decide) (by decide) ?_
  rintro _ h_1 σ_2 m_3 ⟨d, rfl, gd, K_4, sd, Ad⟩
  exact Road.aret 16 bCrR_d16 (t := (.array .byte)) rfl rfl rfl (by decide) (by decide) (fun σ' m => ⟨d, rfl, gd, K_4, m _ sd, Ad⟩)
def bGtV : Road.Bdy := (⟨"java/lang/AbstractStringBuilder", "getValue", "()[B"⟩, jdk_68_method_64_code, 1, (some (.array .byte)), { frames := 0, cells := 0, slots := 0, locals := 0 })
theorem bGtV_d0 : decode bGtV.bs 0 = .ok (.aload_n 0, 1) := by decide +kernel
theorem bGtV_d1 : decode bGtV.bs 1 = .ok (.getfield 15, 3) := by decide +kernel
theorem bGtV_d4 : decode bGtV.bs 4 = .ok (.areturn, 1) := by decide +kernel
theorem bGtV_pd : parseMethodDescriptor "()[B" = some ⟨[], (some (.array .byte))⟩ := by decide +kernel
theorem bGtV_pn : plainFor bGtV.y = true := plainFor_of_name (show plainName "java/lang/AbstractStringBuilder" = true from by first | (simp [plainName, overriddenIn]; done) | decide +kernel)
theorem cGtV (l : Launch) (Z : State) (a0 : Array Value) (hw : ∀ d ∈ tables_1, d.before a0 Z = true) (n0 : Nat) (hEW : EW Z a0 consts_1) (q b : Addr) (h0 : Heap) (σ : Addr → Prop) (Fv : Fld Z h0 q Road.AB "value" "[B" (.ref b)) :
    Road.Con l Z consts_1 n0 false bGtV [] σ #[(.ref q)] h0 (fun v h2 _ => v = some (.ref b) ∧ h0 = h2) := by
  refine Road.Con.of bGtV_pn hEW #[.val (.ref q)] (fun m => Road.ent (Road.laid1 rfl Road.laid0) (k := 0) rfl rfl) ?_
  intro D hD
  refine Road.aloadN 0 bGtV_d0 rfl ?_
  refine Road.getfield 1 bGtV_d1 (hw _ (List.mem_of_getElem? (i := 50) rfl)) Via.refl Fv ?_
  exact Road.aret 4 bGtV_d4 (t := (.array .byte)) rfl rfl rfl (by decide) (by decide) (fun σ' m => ⟨rfl, rfl⟩)
def bAbN : Road.Bdy := (⟨"java/lang/AbstractStringBuilder", "length", "()I"⟩, jdk_68_method_6_code, 1, (some .int), { frames := 0, cells := 0, slots := 0, locals := 0 })
theorem bAbN_d0 : decode bAbN.bs 0 = .ok (.aload_n 0, 1) := by decide +kernel
theorem bAbN_d1 : decode bAbN.bs 1 = .ok (.getfield 79, 3) := by decide +kernel
theorem bAbN_d4 : decode bAbN.bs 4 = .ok (.ireturn, 1) := by decide +kernel
theorem bAbN_pd : parseMethodDescriptor "()I" = some ⟨[], (some .int)⟩ := by decide +kernel
theorem bAbN_pn : plainFor bAbN.y = true := plainFor_of_name (show plainName "java/lang/AbstractStringBuilder" = true from by first | (simp [plainName, overriddenIn]; done) | decide +kernel)
theorem cAbN (l : Launch) (Z : State) (a0 : Array Value) (hw : ∀ d ∈ tables_1, d.before a0 Z = true) (n0 : Nat) (hEW : EW Z a0 consts_1) (q : Addr) (n : Int32) (h0 : Heap) (σ : Addr → Prop) (Fn : Fld Z h0 q Road.AB "count" "I" (.int n)) :
    Road.Con l Z consts_1 n0 false bAbN [] σ #[(.ref q)] h0 (fun v h2 _ => v = some (.int n) ∧ h0 = h2) := by
  refine Road.Con.of bAbN_pn hEW #[.val (.ref q)] (fun m => Road.ent (Road.laid1 rfl Road.laid0) (k := 0) rfl rfl) ?_
  intro D hD
  refine Road.aloadN 0 bAbN_d0 rfl ?_
  refine Road.getfield 1 bAbN_d1 (hw _ (List.mem_of_getElem? (i := 94) rfl)) Via.refl Fn ?_
  exact Road.iretI 4 bAbN_d4 rfl (by decide) (by decide) (fun σ' m => ⟨rfl, rfl⟩)
def bSbN : Road.Bdy := (⟨"java/lang/StringBuilder", "length", "()I"⟩, jdk_67_method_93_code, 1, (some .int), { frames := 1, cells := 0, slots := 0, locals := 12 })
theorem bSbN_d0 : decode bSbN.bs 0 = .ok (.aload_n 0, 1) := by decide +kernel
theorem bSbN_d1 : decode bSbN.bs 1 = .ok (.invokespecial 343, 3) := by decide +kernel
theorem bSbN_d4 : decode bSbN.bs 4 = .ok (.ireturn, 1) := by decide +kernel
theorem bSbN_pd : parseMethodDescriptor "()I" = some ⟨[], (some .int)⟩ := by decide +kernel
theorem bSbN_pn : plainFor bSbN.y = true := plainFor_of_name (show plainName "java/lang/StringBuilder" = true from by first | (simp [plainName, overriddenIn]; done) | decide +kernel)
theorem cSbN (l : Launch) (Z : State) (a0 : Array Value) (hw : ∀ d ∈ tables_1, d.before a0 Z = true) (n0 : Nat) (hEW : EW Z a0 consts_1) (q : Addr) (n : Int32) (h0 : Heap) (σ : Addr → Prop) (E : Exa Z h0 q Road.SB) (Fn : Fld Z h0 q Road.AB "count" "I" (.int n)) :
    Road.Con l Z consts_1 n0 false bSbN [] σ #[(.ref q)] h0 (fun v h2 _ => v = some (.int n) ∧ h0 = h2) := by
  refine Road.Con.of bSbN_pn hEW #[.val (.ref q)] (fun m => Road.ent (Road.laid1 rfl Road.laid0) (k := 0) rfl rfl) ?_
  intro D hD
  refine Road.aloadN 0 bSbN_d0 rfl ?_
  refine Road.callUp (B' := bAbN) (a := q) 1 (argsL := []) (rest := []) "java/lang/StringBuilder" 0 bSbN_d1 (hw _ (List.mem_of_getElem? (i := 91) rfl)) (Road.notFace_sib (hw _ (List.mem_of_getElem? (i := 83) rfl)) rfl) (hw _ (List.mem_of_getElem? (i := 87) rfl)) (hw _ (List.mem_of_getElem? (i := 92) rfl)) (hw _ (List.mem_of_getElem? (i := 44) rfl)) (hw _ (List.mem_of_getElem? (i := 93) rfl)) (by decide) (by decide) E (cAbN l Z a0 hw n0 hEW q n h0 σ Fn) (lenOf bAbN_pd rfl) rfl rfl rfl (by decide) (by decide) (ce' := 0) (sl' := 0) rfl rfl (by decide) (by decide) ?_
  rintro _ h_1 σ_2 m_3 ⟨rfl, rfl⟩
  refine Road.Go.weaken (σ' := σ) m_3 (Nat.le_refl _) (Nat.le_refl _) ?_
  exact Road.iretI 4 bSbN_d4 rfl (by decide) (by decide) (fun σ' m => ⟨rfl, rfl⟩)
def bStV : Road.Bdy := (⟨"java/lang/String", "<init>", "(Ljava/lang/AbstractStringBuilder;Ljava/lang/Void;)V"⟩, jdk_42_method_150_code, 5, none, { frames := 3, cells := 1, slots := 17, locals := 53 })
theorem bStV_d0 : decode bStV.bs 0 = .ok (.aload_n 0, 1) := by decide +kernel
theorem bStV_d1 : decode bStV.bs 1 = .ok (.invokespecial 1, 3) := by decide +kernel
theorem bStV_d4 : decode bStV.bs 4 = .ok (.aload_n 1, 1) := by decide +kernel
theorem bStV_d5 : decode bStV.bs 5 = .ok (.invokevirtual 552, 3) := by decide +kernel
theorem bStV_d8 : decode bStV.bs 8 = .ok (.astore_n 3, 1) := by decide +kernel
theorem bStV_d9 : decode bStV.bs 9 = .ok (.aload_n 1, 1) := by decide +kernel
theorem bStV_d10 : decode bStV.bs 10 = .ok (.invokevirtual 549, 3) := by decide +kernel
theorem bStV_d13 : decode bStV.bs 13 = .ok (.istore 4, 2) := by decide +kernel
theorem bStV_d15 : decode bStV.bs 15 = .ok (.aload_n 1, 1) := by decide +kernel
theorem bStV_d16 : decode bStV.bs 16 = .ok (.invokevirtual 1047, 3) := by decide +kernel
theorem bStV_d19 : decode bStV.bs 19 = .ok (.ifCond .eq 22, 3) := by decide +kernel
theorem bStV_d22 : decode bStV.bs 22 = .ok (.aload_n 0, 1) := by decide +kernel
theorem bStV_d23 : decode bStV.bs 23 = .ok (.iconst 0, 1) := by decide +kernel
theorem bStV_d24 : decode bStV.bs 24 = .ok (.putfield 15, 3) := by decide +kernel
theorem bStV_d27 : decode bStV.bs 27 = .ok (.aload_n 0, 1) := by decide +kernel
theorem bStV_d28 : decode bStV.bs 28 = .ok (.aload_n 3, 1) := by decide +kernel
theorem bStV_d29 : decode bStV.bs 29 = .ok (.iconst 0, 1) := by decide +kernel
theorem bStV_d30 : decode bStV.bs 30 = .ok (.iload 4, 2) := by decide +kernel
theorem bStV_d32 : decode bStV.bs 32 = .ok (.invokestatic 54, 3) := by decide +kernel
theorem bStV_d35 : decode bStV.bs 35 = .ok (.putfield 9, 3) := by decide +kernel
theorem bStV_d38 : decode bStV.bs 38 = .ok (.goto 59, 3) := by decide +kernel
theorem bStV_d41 : decode bStV.bs 41 = .ok (.getstatic 38, 3) := by decide +kernel
theorem bStV_d44 : decode bStV.bs 44 = .ok (.ifCond .eq 35, 3) := by decide +kernel
theorem bStV_d47 : decode bStV.bs 47 = .ok (.aload_n 1, 1) := by decide +kernel
theorem bStV_d48 : decode bStV.bs 48 = .ok (.getfield 1048, 3) := by decide +kernel
theorem bStV_d51 : decode bStV.bs 51 = .ok (.ifCond .eq 28, 3) := by decide +kernel
theorem bStV_d54 : decode bStV.bs 54 = .ok (.aload_n 0, 1) := by decide +kernel
theorem bStV_d55 : decode bStV.bs 55 = .ok (.aload_n 3, 1) := by decide +kernel
theorem bStV_d56 : decode bStV.bs 56 = .ok (.iconst 0, 1) := by decide +kernel
theorem bStV_d57 : decode bStV.bs 57 = .ok (.iload 4, 2) := by decide +kernel
theorem bStV_d59 : decode bStV.bs 59 = .ok (.invokestatic 1051, 3) := by decide +kernel
theorem bStV_d62 : decode bStV.bs 62 = .ok (.putfield 9, 3) := by decide +kernel
theorem bStV_d65 : decode bStV.bs 65 = .ok (.aload_n 0, 1) := by decide +kernel
theorem bStV_d66 : decode bStV.bs 66 = .ok (.aload_n 0, 1) := by decide +kernel
theorem bStV_d67 : decode bStV.bs 67 = .ok (.getfield 9, 3) := by decide +kernel
theorem bStV_d70 : decode bStV.bs 70 = .ok (.iload 4, 2) := by decide +kernel
theorem bStV_d72 : decode bStV.bs 72 = .ok (.invokestatic 47, 3) := by decide +kernel
theorem bStV_d75 : decode bStV.bs 75 = .ok (.putfield 15, 3) := by decide +kernel
theorem bStV_d78 : decode bStV.bs 78 = .ok (.return_, 1) := by decide +kernel
theorem bStV_d79 : decode bStV.bs 79 = .ok (.aload_n 0, 1) := by decide +kernel
theorem bStV_d80 : decode bStV.bs 80 = .ok (.iconst 1, 1) := by decide +kernel
theorem bStV_d81 : decode bStV.bs 81 = .ok (.putfield 15, 3) := by decide +kernel
theorem bStV_d84 : decode bStV.bs 84 = .ok (.aload_n 0, 1) := by decide +kernel
theorem bStV_d85 : decode bStV.bs 85 = .ok (.aload_n 3, 1) := by decide +kernel
theorem bStV_d86 : decode bStV.bs 86 = .ok (.iconst 0, 1) := by decide +kernel
theorem bStV_d87 : decode bStV.bs 87 = .ok (.iload 4, 2) := by decide +kernel
theorem bStV_d89 : decode bStV.bs 89 = .ok (.iconst 1, 1) := by decide +kernel
theorem bStV_d90 : decode bStV.bs 90 = .ok (.ishl, 1) := by decide +kernel
theorem bStV_d91 : decode bStV.bs 91 = .ok (.invokestatic 54, 3) := by decide +kernel
theorem bStV_d94 : decode bStV.bs 94 = .ok (.putfield 9, 3) := by decide +kernel
theorem bStV_d97 : decode bStV.bs 97 = .ok (.return_, 1) := by decide +kernel
theorem bStV_pd : parseMethodDescriptor "(Ljava/lang/AbstractStringBuilder;Ljava/lang/Void;)V" = some ⟨[(.object "java/lang/AbstractStringBuilder"), (.object "java/lang/Void")], none⟩ := by decide +kernel
theorem bStV_pn : plainFor bStV.y = true := plainFor_of_name (show plainName "java/lang/String" = true from by first | (simp [plainName, overriddenIn]; done) | decide +kernel)
theorem cStV (l : Launch) (Z : State) (a0 : Array Value) (hw : ∀ d ∈ tables_1, d.before a0 Z = true) (n0 : Nat) (hEW : EW Z a0 consts_1) (a : Addr) (q b : Addr) (cs : List Int32) (N : Nat) (h0 : Heap) (σ : Addr → Prop) (E : Exa Z h0 a Road.SN) (Gc : Fld Z h0 a Road.SN "coder" "B" (.int 0)) (Gv : Fld Z h0 a Road.SN "value" "[B" .null) (S : Road.Sb Z h0 q b cs N) (hn : cs.length < N) (hcap : cs.length ≤ 17) (naq : a ≠ q) (sa : σ a) (cp : Int32) (Hc : Sta Z Z.heap Road.SN "COMPACT_STRINGS" "Z" (.int cp)) (hcp : ¬ cp = 0) :
    Road.Con l Z consts_1 n0 false bStV [] σ #[(.ref a), (.ref q), .null] h0 (fun v h2 s2 => v = none ∧ Keep h0 h2 [a] ∧ ∃ d, Road.Str Z h2 a d cs ∧ h0.size ≤ d) := by
  have hN := S.small
  obtain ⟨F, Fc, Fv, Fn, ⟨r, Ab, hr⟩, hlt⟩ := S
  refine Road.Con.of bStV_pn hEW #[.val (.ref a), .val (.ref q), .val .null, .unset, .unset] (fun m => Road.ent (Road.laid1 rfl (Road.laid1 rfl (Road.laid1 rfl Road.laid0))) (k := 2) rfl rfl) ?_
  intro D hD
  refine Road.aloadN 0 bStV_d0 rfl ?_
  refine Road.initObj 1 bStV_d1 (hw _ (List.mem_of_getElem? (i := 79) rfl)) (hw _ (List.mem_of_getElem? (i := 23) rfl)) (hw _ (List.mem_of_getElem? (i := 24) rfl)) 0 rfl rfl (by decide) (by decide) ?_
  refine Road.aloadN 4 bStV_d4 rfl ?_
  refine Road.callV (B' := bGtV) (a := q) 5 (argsL := []) (rest := []) "java/lang/StringBuilder" 0 bStV_d5 (hw _ (List.mem_of_getElem? (i := 80) rfl)) (hw _ (List.mem_of_getElem? (i := 81) rfl)) (fun vm hz => Road.notFace_sib (args := #[]) (mv (s := D.s.setVm vm) hz (hw _ (List.mem_of_getElem? (i := 83) rfl))) rfl) (hw _ (List.mem_of_getElem? (i := 83) rfl)) (hw _ (List.mem_of_getElem? (i := 82) rfl)) (hw _ (List.mem_of_getElem? (i := 44) rfl)) (hw _ (List.mem_of_getElem? (i := 84) rfl)) (by decide) F (cGtV l Z a0 hw n0 hEW q b h0 σ Fv) (lenOf bGtV_pd rfl) rfl rfl rfl (by decide) (by decide) (ce' := 0) (sl' := 0) rfl rfl (by decide) (by decide) ?_
  rintro _ h_1 σ_2 m_3 ⟨rfl, rfl⟩
  refine Road.Go.weaken (σ' := σ) m_3 (Nat.le_refl _) (Nat.le_refl _) ?_
  refine Road.astoreN 8 #[.val (.ref a), .val (.ref q), .val .null, .val (.ref b), .unset] bStV_d8 rfl ?_
  refine Road.aloadN 9 bStV_d9 rfl ?_
  refine Road.callV (B' := bSbN) (a := q) 10 (argsL := []) (rest := []) "java/lang/StringBuilder" 0 bStV_d10 (hw _ (List.mem_of_getElem? (i := 85) rfl)) (hw _ (List.mem_of_getElem? (i := 86) rfl)) (fun vm hz => Road.notFace_sib (args := #[]) (mv (s := D.s.setVm vm) hz (hw _ (List.mem_of_getElem? (i := 83) rfl))) rfl) (hw _ (List.mem_of_getElem? (i := 88) rfl)) (hw _ (List.mem_of_getElem? (i := 89) rfl)) (hw _ (List.mem_of_getElem? (i := 36) rfl)) (hw _ (List.mem_of_getElem? (i := 90) rfl)) (by decide) F (cSbN l Z a0 hw n0 hEW q (Nat.toInt32 cs.length) h0 σ F Fn) (lenOf bSbN_pd rfl) rfl rfl rfl (by decide) (by decide) (ce' := 0) (sl' := 0) rfl rfl (by decide) (by decide) ?_
  rintro _ h_5 σ_6 m_7 ⟨rfl, rfl⟩
  refine Road.Go.weaken (σ' := σ) m_7 (Nat.le_refl _) (Nat.le_refl _) ?_
  refine Road.istore 13 #[.val (.ref a), .val (.ref q), .val .null, .val (.ref b), .val (.int (Nat.toInt32 cs.length))] bStV_d13 rfl ?_
  refine Road.aloadN 15 bStV_d15 rfl ?_
  refine Road.callV (B' := bAbL) (a := q) 16 (argsL := []) (rest := []) "java/lang/StringBuilder" 0 bStV_d16 (hw _ (List.mem_of_getElem? (i := 96) rfl)) (hw _ (List.mem_of_getElem? (i := 97) rfl)) (fun vm hz => Road.notFace_sib (args := #[]) (mv (s := D.s.setVm vm) hz (hw _ (List.mem_of_getElem? (i := 83) rfl))) rfl) (hw _ (List.mem_of_getElem? (i := 99) rfl)) (hw _ (List.mem_of_getElem? (i := 98) rfl)) (hw _ (List.mem_of_getElem? (i := 44) rfl)) (hw _ (List.mem_of_getElem? (i := 100) rfl)) (by decide) F (cAbL l Z a0 hw n0 hEW q h0 σ Fc cp Hc hcp) (lenOf bAbL_pd rfl) rfl rfl rfl (by decide) (by decide) (ce' := 0) (sl' := 0) rfl rfl (by decide) (by decide) ?_
  rintro _ h_9 σ_10 m_11 ⟨rfl, rfl⟩
  refine Road.Go.weaken (σ' := σ) m_11 (Nat.le_refl _) (Nat.le_refl _) ?_
  refine Road.if_eq 19 41 bStV_d19 rfl (fun q => absurd q (by decide)) (fun hc19 => ?_)
  refine Road.aloadN 22 bStV_d22 rfl ?_
  refine Road.iconst 23 (0 : Int32) bStV_d23 rfl ?_
  have nab : a ≠ b := by obtain ⟨c, Ar, -⟩ := Ab; exact ne_arr E (hw _ (List.mem_of_getElem? (i := 71) rfl)) Ar
  refine Road.putfield 24 bStV_d24 (hw _ (List.mem_of_getElem? (i := 101) rfl)) Via.refl Gc E (Or.inr ⟨(hw _ (List.mem_of_getElem? (i := 102) rfl)), rfl, rfl⟩) (hw _ (List.mem_of_getElem? (i := 71) rfl)) (ty := .byte) (by decide) rfl rfl sa ?_
  intro h_15 W_13 K_14
  replace Gc := Gc.same W_13
  replace Gv := Gv.other W_13 (Or.inr (slot_ne (Or.inr (hw _ (List.mem_of_getElem? (i := 122) rfl))) (Or.inr (hw _ (List.mem_of_getElem? (i := 102) rfl))) (by decide) (t := (.array .byte)) (by decide) (t' := .byte) (by decide)))
  replace E := E.keep K_14
  replace Ab := Ab.keep K_14 (ninS (Ne.symm nab) nin0)
  refine Road.aloadN 27 bStV_d27 rfl ?_
  refine Road.aloadN 28 bStV_d28 rfl ?_
  refine Road.iconst 29 (0 : Int32) bStV_d29 rfl ?_
  refine Road.iload 30 bStV_d30 rfl ?_
  refine Road.callS (B' := bCrR) 32 (argsL := [(.ref b), (.int (0 : Int32)), (.int (Nat.toInt32 cs.length))]) (rest := [(.ref a)]) 1 bStV_d32 (hw _ (List.mem_of_getElem? (i := 103) rfl)) (hw _ (List.mem_of_getElem? (i := 104) rfl)) (hw _ (List.mem_of_getElem? (i := 105) rfl)) (hw _ (List.mem_of_getElem? (i := 106) rfl)) (by decide) (cCrR l Z a0 hw n0 hEW b _ cs.length h_15 σ Ab (by rw [List.length_append, List.length_map]; omega) hcap) (lenOf bCrR_pd rfl) rfl rfl rfl (by decide) (by decide) (ce' := 1) (sl' := 17) rfl rfl (by decide) (by decide) ?_
  rintro _ h_16 σ_17 m_18 ⟨d, rfl, gd, K_19, sd, Ad⟩
  have ne_a_d : a ≠ d := Nat.ne_of_lt (Nat.lt_of_lt_of_le E.lt gd)
  have ne_b_d : b ≠ d := Nat.ne_of_lt (Nat.lt_of_lt_of_le Ab.lt gd)
  replace E := E.keep K_19
  replace Gc := Gc.keep K_19 nin0
  replace Gv := Gv.keep K_19 nin0
  replace Ab := Ab.keep K_19 nin0
  replace sa := m_18 _ sa
  refine Road.putfield 35 bStV_d35 (hw _ (List.mem_of_getElem? (i := 121) rfl)) Via.refl Gv E (Or.inr ⟨(hw _ (List.mem_of_getElem? (i := 122) rfl)), rfl, rfl⟩) (hw _ (List.mem_of_getElem? (i := 71) rfl)) (ty := (.array .byte)) (by decide) rfl rfl sa ?_
  intro h_23 W_21 K_22
  replace Gv := Gv.same W_21
  replace Gc := Gc.other W_21 (Or.inr (slot_ne (Or.inr (hw _ (List.mem_of_getElem? (i := 102) rfl))) (Or.inr (hw _ (List.mem_of_getElem? (i := 122) rfl))) (by decide) (t := .byte) (by decide) (t' := (.array .byte)) (by decide)))
  replace E := E.keep K_22
  replace Ab := Ab.keep K_22 (ninS (Ne.symm nab) nin0)
  replace Ad := Ad.keep K_22 (ninS (Ne.symm ne_a_d) nin0)
  refine Road.goto 38 97 bStV_d38 rfl ?_
  rw [List.take_append_of_le_length (by rw [List.length_map]; omega), List.take_of_length_le (by rw [List.length_map]; omega)] at Ad
  exact Road.ret 97 bStV_d97 rfl (by decide) (by decide) (fun σ' m => ⟨rfl, (K_14.trans (Road.keep_more (ws := [a]) K_19) (by simp)).trans K_22 (by simp), d, ⟨E, Gc, Gv, Ad, hlt⟩, Nat.le_trans K_14.1 gd⟩)
def bStS : Road.Bdy := (⟨"java/lang/String", "<init>", "(Ljava/lang/StringBuilder;)V"⟩, jdk_42_method_53_code, 2, none, { frames := 4, cells := 1, slots := 17, locals := 69 })
theorem bStS_d0 : decode bStS.bs 0 = .ok (.aload_n 0, 1) := by decide +kernel
theorem bStS_d1 : decode bStS.bs 1 = .ok (.aload_n 1, 1) := by decide +kernel
theorem bStS_d2 : decode bStS.bs 2 = .ok (.aconst_null, 1) := by decide +kernel
theorem bStS_d3 : decode bStS.bs 3 = .ok (.invokespecial 489, 3) := by decide +kernel
theorem bStS_d6 : decode bStS.bs 6 = .ok (.return_, 1) := by decide +kernel
theorem bStS_pd : parseMethodDescriptor "(Ljava/lang/StringBuilder;)V" = some ⟨[(.object "java/lang/StringBuilder")], none⟩ := by decide +kernel
theorem bStS_pn : plainFor bStS.y = true := plainFor_of_name (show plainName "java/lang/String" = true from by first | (simp [plainName, overriddenIn]; done) | decide +kernel)
theorem cStS (l : Launch) (Z : State) (a0 : Array Value) (hw : ∀ d ∈ tables_1, d.before a0 Z = true) (n0 : Nat) (hEW : EW Z a0 consts_1) (a : Addr) (q b : Addr) (cs : List Int32) (N : Nat) (h0 : Heap) (σ : Addr → Prop) (E : Exa Z h0 a Road.SN) (Gc : Fld Z h0 a Road.SN "coder" "B" (.int 0)) (Gv : Fld Z h0 a Road.SN "value" "[B" .null) (S : Road.Sb Z h0 q b cs N) (hn : cs.length < N) (hcap : cs.length ≤ 17) (naq : a ≠ q) (sa : σ a) (cp : Int32) (Hc : Sta Z Z.heap Road.SN "COMPACT_STRINGS" "Z" (.int cp)) (hcp : ¬ cp = 0) :
    Road.Con l Z consts_1 n0 false bStS [] σ #[(.ref a), (.ref q)] h0 (fun v h2 s2 => v = none ∧ Keep h0 h2 [a] ∧ ∃ d, Road.Str Z h2 a d cs ∧ h0.size ≤ d) := by
  refine Road.Con.of bStS_pn hEW #[.val (.ref a), .val (.ref q)] (fun m => Road.ent (Road.laid1 rfl (Road.laid1 rfl Road.laid0)) (k := 0) rfl rfl) ?_
  intro D hD
  refine Road.aloadN 0 bStS_d0 rfl ?_
  refine Road.aloadN 1 bStS_d1 rfl ?_
  refine Road.aconstNull 2 bStS_d2 ?_
  refine Road.callI (B' := bStV) (a := a) 3 (argsL := [(.ref q), .null]) (rest := []) 0 bStS_d3 (hw _ (List.mem_of_getElem? (i := 76) rfl)) (hw _ (List.mem_of_getElem? (i := 77) rfl)) (hw _ (List.mem_of_getElem? (i := 48) rfl)) (hw _ (List.mem_of_getElem? (i := 78) rfl)) rfl rfl (by decide) (cStV l Z a0 hw n0 hEW a q b cs N h0 σ E Gc Gv S hn hcap naq sa cp Hc hcp) (lenOf bStV_pd rfl) rfl rfl rfl (by decide) (by decide) (ce' := 1) (sl' := 17) rfl rfl (by decide) (by decide) ?_
  rintro _ h_1 σ_2 m_3 ⟨rfl, K_4, d, T, gd⟩
  exact Road.ret 6 bStS_d6 rfl (by decide) (by decide) (fun σ' m => ⟨rfl, K_4, d, T, gd⟩)
def bToS : Road.Bdy := (⟨"java/lang/StringBuilder", "toString", "()Ljava/lang/String;"⟩, jdk_67_method_42_code, 1, (some (.object "java/lang/String")), { frames := 5, cells := 2, slots := 21, locals := 83 })
theorem bToS_d0 : decode bToS.bs 0 = .ok (.new 18, 3) := by decide +kernel
theorem bToS_d3 : decode bToS.bs 3 = .ok (.dup, 1) := by decide +kernel
theorem bToS_d4 : decode bToS.bs 4 = .ok (.aload_n 0, 1) := by decide +kernel
theorem bToS_d5 : decode bToS.bs 5 = .ok (.invokespecial 137, 3) := by decide +kernel
theorem bToS_d8 : decode bToS.bs 8 = .ok (.areturn, 1) := by decide +kernel
theorem bToS_pd : parseMethodDescriptor "()Ljava/lang/String;" = some ⟨[], (some (.object "java/lang/String"))⟩ := by decide +kernel
theorem bToS_pn : plainFor bToS.y = true := plainFor_of_name (show plainName "java/lang/StringBuilder" = true from by first | (simp [plainName, overriddenIn]; done) | decide +kernel)
theorem cToS (l : Launch) (Z : State) (a0 : Array Value) (hw : ∀ d ∈ tables_1, d.before a0 Z = true) (n0 : Nat) (hEW : EW Z a0 consts_1) (q b : Addr) (cs : List Int32) (N : Nat) (h0 : Heap) (σ : Addr → Prop) (S : Road.Sb Z h0 q b cs N) (hn : cs.length < N) (hcap : cs.length ≤ 17) (cp : Int32) (Hc : Sta Z Z.heap Road.SN "COMPACT_STRINGS" "Z" (.int cp)) (hcp : ¬ cp = 0) :
    Road.Con l Z consts_1 n0 false bToS [] σ #[(.ref q)] h0 (fun v h2 s2 => ∃ a d, v = some (.ref a) ∧ h0.size ≤ a ∧ h0.size ≤ d ∧ Keep h0 h2 [] ∧ Road.Str Z h2 a d cs) := by
  refine Road.Con.of bToS_pn hEW #[.val (.ref q)] (fun m => Road.ent (Road.laid1 rfl Road.laid0) (k := 0) rfl rfl) ?_
  intro D hD
  refine Road.new 0 "java/lang/String" bToS_d0 (hw _ (List.mem_of_getElem? (i := 70) rfl)) (hw _ (List.mem_of_getElem? (i := 71) rfl)) (hw _ (List.mem_of_getElem? (i := 48) rfl)) (ce' := 1) (sl' := 4) rfl rfl (by decide) (by decide) ?_
  intro a h_1 σ_2 g_3 K_4 lt_5 m_6 s_7 E D_8 M_9
  have ne_q_a : q ≠ a := Nat.ne_of_lt (Nat.lt_of_lt_of_le S.lt (Nat.le_of_eq g_3.symm))
  have ne_b_a : b ≠ a := Nat.ne_of_lt (Nat.lt_of_lt_of_le S.ltb (Nat.le_of_eq g_3.symm))
  replace S := S.keep K_4 nin0 nin0
  have Gc := D_8 (Or.inr (hw _ (List.mem_of_getElem? (i := 102) rfl))) (ty := .byte) (by decide)
  have Gv := D_8 (Or.inr (hw _ (List.mem_of_getElem? (i := 122) rfl))) (ty := (.array .byte)) (by decide)
  refine Road.dup 3 bToS_d3 ?_
  refine Road.aloadN 4 bToS_d4 rfl ?_
  refine Road.callI (B' := bStS) (a := a) 5 (argsL := [(.ref q)]) (rest := [(.ref a)]) 1 bToS_d5 (hw _ (List.mem_of_getElem? (i := 72) rfl)) (hw _ (List.mem_of_getElem? (i := 73) rfl)) (hw _ (List.mem_of_getElem? (i := 48) rfl)) (hw _ (List.mem_of_getElem? (i := 75) rfl)) rfl rfl (by decide) (cStS l Z a0 hw n0 hEW a q b cs N h_1 σ_2 E Gc Gv S hn hcap (Ne.symm ne_q_a) s_7 cp Hc hcp) (lenOf bStS_pd rfl) rfl rfl rfl (by decide) (by decide) (ce' := 2) (sl' := 21) rfl rfl (by decide) (by decide) ?_
  rintro _ h_10 σ_11 m_12 ⟨rfl, K_13, d, T, gd⟩
  replace s_7 := m_12 _ s_7
  exact Road.aret 8 bToS_d8 (t := (.object "java/lang/String")) rfl rfl rfl (by decide) (by decide) (fun σ' m => ⟨a, d, rfl, Nat.le_of_eq g_3.symm, Nat.le_trans K_4.1 gd, K_4.trans K_13 (by intro x hx; cases List.mem_singleton.mp hx; exact Or.inr (Nat.le_of_eq g_3.symm)), T⟩)
def bCrE : Road.Bdy := (⟨"java/util/Arrays", "copyOfRange", "([BII)[B"⟩, jdk_65_method_132_code, 3, (some (.array .byte)), { frames := 1, cells := 1, slots := 16, locals := 14 })
theorem bCrE_d0 : decode bCrE.bs 0 = .ok (.iload_n 1, 1) := by decide +kernel
theorem bCrE_d1 : decode bCrE.bs 1 = .ok (.ifCond .ne 9, 3) := by decide +kernel
theorem bCrE_d4 : decode bCrE.bs 4 = .ok (.iload_n 2, 1) := by decide +kernel
theorem bCrE_d5 : decode bCrE.bs 5 = .ok (.aload_n 0, 1) := by decide +kernel
theorem bCrE_d6 : decode bCrE.bs 6 = .ok (.arraylength, 1) := by decide +kernel
theorem bCrE_d7 : decode bCrE.bs 7 = .ok (.if_icmp .eq 10, 3) := by decide +kernel
theorem bCrE_d10 : decode bCrE.bs 10 = .ok (.aload_n 0, 1) := by decide +kernel
theorem bCrE_d11 : decode bCrE.bs 11 = .ok (.iload_n 1, 1) := by decide +kernel
theorem bCrE_d12 : decode bCrE.bs 12 = .ok (.iload_n 2, 1) := by decide +kernel
theorem bCrE_d13 : decode bCrE.bs 13 = .ok (.invokestatic 339, 3) := by decide +kernel
theorem bCrE_d16 : decode bCrE.bs 16 = .ok (.areturn, 1) := by decide +kernel
theorem bCrE_d17 : decode bCrE.bs 17 = .ok (.aload_n 0, 1) := by decide +kernel
theorem bCrE_d18 : decode bCrE.bs 18 = .ok (.invokevirtual 310, 3) := by decide +kernel
theorem bCrE_d21 : decode bCrE.bs 21 = .ok (.checkcast 311, 3) := by decide +kernel
theorem bCrE_d24 : decode bCrE.bs 24 = .ok (.areturn, 1) := by decide +kernel
theorem bCrE_pd : parseMethodDescriptor "([BII)[B" = some ⟨[(.array .byte), .int, .int], (some (.array .byte))⟩ := by decide +kernel
theorem bCrE_pn : plainFor bCrE.y = true := plainFor_of_name (show plainName "java/util/Arrays" = true from by first | (simp [plainName, overriddenIn]; done) | decide +kernel)
theorem cCrE (l : Launch) (Z : State) (a0 : Array Value) (hw : ∀ d ∈ tables_1, d.before a0 Z = true) (n0 : Nat) (hEW : EW Z a0 consts_1) (b : Addr) (vs : List Value) (n : Nat) (h0 : Heap) (σ : Addr → Prop) (A : Road.Ary Z h0 b .byte vs) (EB : Exa Z h0 b "[B") (hn : vs.length = n) (hcap : n ≤ 16) :
    Road.Con l Z consts_1 n0 false bCrE [] σ #[(.ref b), (.int (0 : Int32)), (.int (Nat.toInt32 n))] h0 (fun v h2 s2 => ∃ d, v = some (.ref d) ∧ h0.size ≤ d ∧ Keep h0 h2 [] ∧ s2 d ∧ Road.Ary Z h2 d .byte vs) := by
  refine Road.Con.of bCrE_pn hEW #[.val (.ref b), .val (.int (0 : Int32)), .val (.int (Nat.toInt32 n))] (fun m => Road.ent (Road.laid1 rfl (Road.laid1 rfl (Road.laid1 rfl Road.laid0))) (k := 0) rfl rfl) ?_
  intro D hD
  subst hn
  refine Road.iloadN 0 bCrE_d0 rfl ?_
  refine Road.if_ne 1 10 bCrE_d1 rfl (fun q => absurd q (by decide)) (fun hc1 => ?_)
  refine Road.iloadN 4 bCrE_d4 rfl ?_
  refine Road.aloadN 5 bCrE_d5 rfl ?_
  refine Road.alen 6 (Nat.toInt32 vs.length) bCrE_d6 A (n := vs.length) rfl rfl ?_
  refine Road.icmp_eq 7 17 bCrE_d7 rfl (fun hc7 => ?_) (fun q => absurd q (by simp))
  refine Road.aloadN 17 bCrE_d17 rfl ?_
  refine Road.cloneArr 18 0 16 bCrE_d18 (hw _ (List.mem_of_getElem? (i := 321) rfl)) (hw _ (List.mem_of_getElem? (i := 322) rfl)) (hw _ (List.mem_of_getElem? (i := 326) rfl)) (hw _ (List.mem_of_getElem? (i := 324) rfl)) (hw _ (List.mem_of_getElem? (i := 325) rfl)) (hw _ (List.mem_of_getElem? (i := 327) rfl)) A EB rfl rfl (by decide) (by decide) hcap (ce' := 1) (sl' := 16) rfl rfl (by decide) (by decide) ?_
  intro d h2 σ2 gd Kd ltd md sd Ad Ed
  refine Road.castYes 21 bCrE_d21 (hw _ (List.mem_of_getElem? (i := 328) rfl)) (Ins.self Ed) ?_
  exact Road.aret 24 bCrE_d24 (t := (.array .byte)) rfl rfl rfl (by decide) (by decide) (fun σ' m => ⟨d, rfl, Nat.le_of_eq gd.symm, Kd, m _ sd, Ad⟩)
def bEtV : Road.Bdy := (⟨"java/lang/String", "<init>", "(Ljava/lang/AbstractStringBuilder;Ljava/lang/Void;)V"⟩, jdk_42_method_150_code, 5, none, { frames := 2, cells := 1, slots := 16, locals := 29 })
theorem bEtV_d0 : decode bEtV.bs 0 = .ok (.aload_n 0, 1) := by decide +kernel
theorem bEtV_d1 : decode bEtV.bs 1 = .ok (.invokespecial 1, 3) := by decide +kernel
theorem bEtV_d4 : decode bEtV.bs 4 = .ok (.aload_n 1, 1) := by decide +kernel
theorem bEtV_d5 : decode bEtV.bs 5 = .ok (.invokevirtual 552, 3) := by decide +kernel
theorem bEtV_d8 : decode bEtV.bs 8 = .ok (.astore_n 3, 1) := by decide +kernel
theorem bEtV_d9 : decode bEtV.bs 9 = .ok (.aload_n 1, 1) := by decide +kernel
theorem bEtV_d10 : decode bEtV.bs 10 = .ok (.invokevirtual 549, 3) := by decide +kernel
theorem bEtV_d13 : decode bEtV.bs 13 = .ok (.istore 4, 2) := by decide +kernel
theorem bEtV_d15 : decode bEtV.bs 15 = .ok (.aload_n 1, 1) := by decide +kernel
theorem bEtV_d16 : decode bEtV.bs 16 = .ok (.invokevirtual 1047, 3) := by decide +kernel
theorem bEtV_d19 : decode bEtV.bs 19 = .ok (.ifCond .eq 22, 3) := by decide +kernel
theorem bEtV_d22 : decode bEtV.bs 22 = .ok (.aload_n 0, 1) := by decide +kernel
theorem bEtV_d23 : decode bEtV.bs 23 = .ok (.iconst 0, 1) := by decide +kernel
theorem bEtV_d24 : decode bEtV.bs 24 = .ok (.putfield 15, 3) := by decide +kernel
theorem bEtV_d27 : decode bEtV.bs 27 = .ok (.aload_n 0, 1) := by decide +kernel
theorem bEtV_d28 : decode bEtV.bs 28 = .ok (.aload_n 3, 1) := by decide +kernel
theorem bEtV_d29 : decode bEtV.bs 29 = .ok (.iconst 0, 1) := by decide +kernel
theorem bEtV_d30 : decode bEtV.bs 30 = .ok (.iload 4, 2) := by decide +kernel
theorem bEtV_d32 : decode bEtV.bs 32 = .ok (.invokestatic 54, 3) := by decide +kernel
theorem bEtV_d35 : decode bEtV.bs 35 = .ok (.putfield 9, 3) := by decide +kernel
theorem bEtV_d38 : decode bEtV.bs 38 = .ok (.goto 59, 3) := by decide +kernel
theorem bEtV_d41 : decode bEtV.bs 41 = .ok (.getstatic 38, 3) := by decide +kernel
theorem bEtV_d44 : decode bEtV.bs 44 = .ok (.ifCond .eq 35, 3) := by decide +kernel
theorem bEtV_d47 : decode bEtV.bs 47 = .ok (.aload_n 1, 1) := by decide +kernel
theorem bEtV_d48 : decode bEtV.bs 48 = .ok (.getfield 1048, 3) := by decide +kernel
theorem bEtV_d51 : decode bEtV.bs 51 = .ok (.ifCond .eq 28, 3) := by decide +kernel
theorem bEtV_d54 : decode bEtV.bs 54 = .ok (.aload_n 0, 1) := by decide +kernel
theorem bEtV_d55 : decode bEtV.bs 55 = .ok (.aload_n 3, 1) := by decide +kernel
theorem bEtV_d56 : decode bEtV.bs 56 = .ok (.iconst 0, 1) := by decide +kernel
theorem bEtV_d57 : decode bEtV.bs 57 = .ok (.iload 4, 2) := by decide +kernel
theorem bEtV_d59 : decode bEtV.bs 59 = .ok (.invokestatic 1051, 3) := by decide +kernel
theorem bEtV_d62 : decode bEtV.bs 62 = .ok (.putfield 9, 3) := by decide +kernel
theorem bEtV_d65 : decode bEtV.bs 65 = .ok (.aload_n 0, 1) := by decide +kernel
theorem bEtV_d66 : decode bEtV.bs 66 = .ok (.aload_n 0, 1) := by decide +kernel
theorem bEtV_d67 : decode bEtV.bs 67 = .ok (.getfield 9, 3) := by decide +kernel
theorem bEtV_d70 : decode bEtV.bs 70 = .ok (.iload 4, 2) := by decide +kernel
theorem bEtV_d72 : decode bEtV.bs 72 = .ok (.invokestatic 47, 3) := by decide +kernel
theorem bEtV_d75 : decode bEtV.bs 75 = .ok (.putfield 15, 3) := by decide +kernel
theorem bEtV_d78 : decode bEtV.bs 78 = .ok (.return_, 1) := by decide +kernel
theorem bEtV_d79 : decode bEtV.bs 79 = .ok (.aload_n 0, 1) := by decide +kernel
theorem bEtV_d80 : decode bEtV.bs 80 = .ok (.iconst 1, 1) := by decide +kernel
theorem bEtV_d81 : decode bEtV.bs 81 = .ok (.putfield 15, 3) := by decide +kernel
theorem bEtV_d84 : decode bEtV.bs 84 = .ok (.aload_n 0, 1) := by decide +kernel
theorem bEtV_d85 : decode bEtV.bs 85 = .ok (.aload_n 3, 1) := by decide +kernel
theorem bEtV_d86 : decode bEtV.bs 86 = .ok (.iconst 0, 1) := by decide +kernel
theorem bEtV_d87 : decode bEtV.bs 87 = .ok (.iload 4, 2) := by decide +kernel
theorem bEtV_d89 : decode bEtV.bs 89 = .ok (.iconst 1, 1) := by decide +kernel
theorem bEtV_d90 : decode bEtV.bs 90 = .ok (.ishl, 1) := by decide +kernel
theorem bEtV_d91 : decode bEtV.bs 91 = .ok (.invokestatic 54, 3) := by decide +kernel
theorem bEtV_d94 : decode bEtV.bs 94 = .ok (.putfield 9, 3) := by decide +kernel
theorem bEtV_d97 : decode bEtV.bs 97 = .ok (.return_, 1) := by decide +kernel
theorem bEtV_pd : parseMethodDescriptor "(Ljava/lang/AbstractStringBuilder;Ljava/lang/Void;)V" = some ⟨[(.object "java/lang/AbstractStringBuilder"), (.object "java/lang/Void")], none⟩ := by decide +kernel
theorem bEtV_pn : plainFor bEtV.y = true := plainFor_of_name (show plainName "java/lang/String" = true from by first | (simp [plainName, overriddenIn]; done) | decide +kernel)
theorem cEtV (l : Launch) (Z : State) (a0 : Array Value) (hw : ∀ d ∈ tables_1, d.before a0 Z = true) (n0 : Nat) (hEW : EW Z a0 consts_1) (a : Addr) (q b : Addr) (cs : List Int32) (N : Nat) (h0 : Heap) (σ : Addr → Prop) (E : Exa Z h0 a Road.SN) (Gc : Fld Z h0 a Road.SN "coder" "B" (.int 0)) (Gv : Fld Z h0 a Road.SN "value" "[B" .null) (S : Road.Sb Z h0 q b cs N) (EB : Exa Z h0 b "[B") (hn : cs.length = N) (hcap : cs.length ≤ 16) (naq : a ≠ q) (sa : σ a) (cp : Int32) (Hc : Sta Z Z.heap Road.SN "COMPACT_STRINGS" "Z" (.int cp)) (hcp : ¬ cp = 0) :
    Road.Con l Z consts_1 n0 false bEtV [] σ #[(.ref a), (.ref q), .null] h0 (fun v h2 s2 => v = none ∧ Keep h0 h2 [a] ∧ ∃ d, Road.Str Z h2 a d cs ∧ h0.size ≤ d) := by
  have hN := S.small
  obtain ⟨F, Fc, Fv, Fn, ⟨r, Ab, hr⟩, hlt⟩ := S
  have hr0 : r = [] := List.eq_nil_of_length_eq_zero (by omega)
  subst hr0
  rw [List.append_nil] at Ab
  refine Road.Con.of bEtV_pn hEW #[.val (.ref a), .val (.ref q), .val .null, .unset, .unset] (fun m => Road.ent (Road.laid1 rfl (Road.laid1 rfl (Road.laid1 rfl Road.laid0))) (k := 2) rfl rfl) ?_
  intro D hD
  refine Road.aloadN 0 bEtV_d0 rfl ?_
  refine Road.initObj 1 bEtV_d1 (hw _ (List.mem_of_getElem? (i := 79) rfl)) (hw _ (List.mem_of_getElem? (i := 23) rfl)) (hw _ (List.mem_of_getElem? (i := 24) rfl)) 0 rfl rfl (by decide) (by decide) ?_
  refine Road.aloadN 4 bEtV_d4 rfl ?_
  refine Road.callV (B' := bGtV) (a := q) 5 (argsL := []) (rest := []) "java/lang/StringBuilder" 0 bEtV_d5 (hw _ (List.mem_of_getElem? (i := 80) rfl)) (hw _ (List.mem_of_getElem? (i := 81) rfl)) (fun vm hz => Road.notFace_sib (args := #[]) (mv (s := D.s.setVm vm) hz (hw _ (List.mem_of_getElem? (i := 83) rfl))) rfl) (hw _ (List.mem_of_getElem? (i := 83) rfl)) (hw _ (List.mem_of_getElem? (i := 82) rfl)) (hw _ (List.mem_of_getElem? (i := 44) rfl)) (hw _ (List.mem_of_getElem? (i := 84) rfl)) (by decide) F (cGtV l Z a0 hw n0 hEW q b h0 σ Fv) (lenOf bGtV_pd rfl) rfl rfl rfl (by decide) (by decide) (ce' := 0) (sl' := 0) rfl rfl (by decide) (by decide) ?_
  rintro _ h_1 σ_2 m_3 ⟨rfl, rfl⟩
  refine Road.Go.weaken (σ' := σ) m_3 (Nat.le_refl _) (Nat.le_refl _) ?_
  refine Road.astoreN 8 #[.val (.ref a), .val (.ref q), .val .null, .val (.ref b), .unset] bEtV_d8 rfl ?_
  refine Road.aloadN 9 bEtV_d9 rfl ?_
  refine Road.callV (B' := bSbN) (a := q) 10 (argsL := []) (rest := []) "java/lang/StringBuilder" 0 bEtV_d10 (hw _ (List.mem_of_getElem? (i := 85) rfl)) (hw _ (List.mem_of_getElem? (i := 86) rfl)) (fun vm hz => Road.notFace_sib (args := #[]) (mv (s := D.s.setVm vm) hz (hw _ (List.mem_of_getElem? (i := 83) rfl))) rfl) (hw _ (List.mem_of_getElem? (i := 88) rfl)) (hw _ (List.mem_of_getElem? (i := 89) rfl)) (hw _ (List.mem_of_getElem? (i := 36) rfl)) (hw _ (List.mem_of_getElem? (i := 90) rfl)) (by decide) F (cSbN l Z a0 hw n0 hEW q (Nat.toInt32 cs.length) h0 σ F Fn) (lenOf bSbN_pd rfl) rfl rfl rfl (by decide) (by decide) (ce' := 0) (sl' := 0) rfl rfl (by decide) (by decide) ?_
  rintro _ h_5 σ_6 m_7 ⟨rfl, rfl⟩
  refine Road.Go.weaken (σ' := σ) m_7 (Nat.le_refl _) (Nat.le_refl _) ?_
  refine Road.istore 13 #[.val (.ref a), .val (.ref q), .val .null, .val (.ref b), .val (.int (Nat.toInt32 cs.length))] bEtV_d13 rfl ?_
  refine Road.aloadN 15 bEtV_d15 rfl ?_
  refine Road.callV (B' := bAbL) (a := q) 16 (argsL := []) (rest := []) "java/lang/StringBuilder" 0 bEtV_d16 (hw _ (List.mem_of_getElem? (i := 96) rfl)) (hw _ (List.mem_of_getElem? (i := 97) rfl)) (fun vm hz => Road.notFace_sib (args := #[]) (mv (s := D.s.setVm vm) hz (hw _ (List.mem_of_getElem? (i := 83) rfl))) rfl) (hw _ (List.mem_of_getElem? (i := 99) rfl)) (hw _ (List.mem_of_getElem? (i := 98) rfl)) (hw _ (List.mem_of_getElem? (i := 44) rfl)) (hw _ (List.mem_of_getElem? (i := 100) rfl)) (by decide) F (cAbL l Z a0 hw n0 hEW q h0 σ Fc cp Hc hcp) (lenOf bAbL_pd rfl) rfl rfl rfl (by decide) (by decide) (ce' := 0) (sl' := 0) rfl rfl (by decide) (by decide) ?_
  rintro _ h_9 σ_10 m_11 ⟨rfl, rfl⟩
  refine Road.Go.weaken (σ' := σ) m_11 (Nat.le_refl _) (Nat.le_refl _) ?_
  refine Road.if_eq 19 41 bEtV_d19 rfl (fun q => absurd q (by decide)) (fun hc19 => ?_)
  refine Road.aloadN 22 bEtV_d22 rfl ?_
  refine Road.iconst 23 (0 : Int32) bEtV_d23 rfl ?_
  have nab : a ≠ b := by obtain ⟨c, Ar, -⟩ := Ab; exact ne_arr E (hw _ (List.mem_of_getElem? (i := 71) rfl)) Ar
  refine Road.putfield 24 bEtV_d24 (hw _ (List.mem_of_getElem? (i := 101) rfl)) Via.refl Gc E (Or.inr ⟨(hw _ (List.mem_of_getElem? (i := 102) rfl)), rfl, rfl⟩) (hw _ (List.mem_of_getElem? (i := 71) rfl)) (ty := .byte) (by decide) rfl rfl sa ?_
  intro h_15 W_13 K_14
  replace Gc := Gc.same W_13
  replace Gv := Gv.other W_13 (Or.inr (slot_ne (Or.inr (hw _ (List.mem_of_getElem? (i := 122) rfl))) (Or.inr (hw _ (List.mem_of_getElem? (i := 102) rfl))) (by decide) (t := (.array .byte)) (by decide) (t' := .byte) (by decide)))
  replace E := E.keep K_14
  replace EB := EB.keep K_14
  replace Ab := Ab.keep K_14 (ninS (Ne.symm nab) nin0)
  refine Road.aloadN 27 bEtV_d27 rfl ?_
  refine Road.aloadN 28 bEtV_d28 rfl ?_
  refine Road.iconst 29 (0 : Int32) bEtV_d29 rfl ?_
  refine Road.iload 30 bEtV_d30 rfl ?_
  refine Road.callS (B' := bCrE) 32 (argsL := [(.ref b), (.int (0 : Int32)), (.int (Nat.toInt32 cs.length))]) (rest := [(.ref a)]) 1 bEtV_d32 (hw _ (List.mem_of_getElem? (i := 103) rfl)) (hw _ (List.mem_of_getElem? (i := 104) rfl)) (hw _ (List.mem_of_getElem? (i := 105) rfl)) (hw _ (List.mem_of_getElem? (i := 106) rfl)) (by decide) (cCrE l Z a0 hw n0 hEW b _ cs.length h_15 σ Ab EB (List.length_map _) hcap) (lenOf bCrE_pd rfl) rfl rfl rfl (by decide) (by decide) (ce' := 1) (sl' := 16) rfl rfl (by decide) (by decide) ?_
  rintro _ h_16 σ_17 m_18 ⟨d, rfl, gd, K_19, sd, Ad⟩
  have ne_a_d : a ≠ d := Nat.ne_of_lt (Nat.lt_of_lt_of_le E.lt gd)
  have ne_b_d : b ≠ d := Nat.ne_of_lt (Nat.lt_of_lt_of_le EB.lt gd)
  replace E := E.keep K_19
  replace Gc := Gc.keep K_19 nin0
  replace Gv := Gv.keep K_19 nin0
  replace EB := EB.keep K_19
  replace Ab := Ab.keep K_19 nin0
  replace sa := m_18 _ sa
  refine Road.putfield 35 bEtV_d35 (hw _ (List.mem_of_getElem? (i := 121) rfl)) Via.refl Gv E (Or.inr ⟨(hw _ (List.mem_of_getElem? (i := 122) rfl)), rfl, rfl⟩) (hw _ (List.mem_of_getElem? (i := 71) rfl)) (ty := (.array .byte)) (by decide) rfl rfl sa ?_
  intro h_23 W_21 K_22
  replace Gv := Gv.same W_21
  replace Gc := Gc.other W_21 (Or.inr (slot_ne (Or.inr (hw _ (List.mem_of_getElem? (i := 102) rfl))) (Or.inr (hw _ (List.mem_of_getElem? (i := 122) rfl))) (by decide) (t := .byte) (by decide) (t' := (.array .byte)) (by decide)))
  replace E := E.keep K_22
  replace EB := EB.keep K_22
  replace Ab := Ab.keep K_22 (ninS (Ne.symm nab) nin0)
  replace Ad := Ad.keep K_22 (ninS (Ne.symm ne_a_d) nin0)
  refine Road.goto 38 97 bEtV_d38 rfl ?_
  exact Road.ret 97 bEtV_d97 rfl (by decide) (by decide) (fun σ' m => ⟨rfl, (K_14.trans (Road.keep_more (ws := [a]) K_19) (by simp)).trans K_22 (by simp), d, ⟨E, Gc, Gv, Ad, hlt⟩, Nat.le_trans K_14.1 gd⟩)
def bEtS : Road.Bdy := (⟨"java/lang/String", "<init>", "(Ljava/lang/StringBuilder;)V"⟩, jdk_42_method_53_code, 2, none, { frames := 3, cells := 1, slots := 16, locals := 45 })
theorem bEtS_d0 : decode bEtS.bs 0 = .ok (.aload_n 0, 1) := by decide +kernel
theorem bEtS_d1 : decode bEtS.bs 1 = .ok (.aload_n 1, 1) := by decide +kernel
theorem bEtS_d2 : decode bEtS.bs 2 = .ok (.aconst_null, 1) := by decide +kernel
theorem bEtS_d3 : decode bEtS.bs 3 = .ok (.invokespecial 489, 3) := by decide +kernel
theorem bEtS_d6 : decode bEtS.bs 6 = .ok (.return_, 1) := by decide +kernel
theorem bEtS_pd : parseMethodDescriptor "(Ljava/lang/StringBuilder;)V" = some ⟨[(.object "java/lang/StringBuilder")], none⟩ := by decide +kernel
theorem bEtS_pn : plainFor bEtS.y = true := plainFor_of_name (show plainName "java/lang/String" = true from by first | (simp [plainName, overriddenIn]; done) | decide +kernel)
theorem cEtS (l : Launch) (Z : State) (a0 : Array Value) (hw : ∀ d ∈ tables_1, d.before a0 Z = true) (n0 : Nat) (hEW : EW Z a0 consts_1) (a : Addr) (q b : Addr) (cs : List Int32) (N : Nat) (h0 : Heap) (σ : Addr → Prop) (E : Exa Z h0 a Road.SN) (Gc : Fld Z h0 a Road.SN "coder" "B" (.int 0)) (Gv : Fld Z h0 a Road.SN "value" "[B" .null) (S : Road.Sb Z h0 q b cs N) (EB : Exa Z h0 b "[B") (hn : cs.length = N) (hcap : cs.length ≤ 16) (naq : a ≠ q) (sa : σ a) (cp : Int32) (Hc : Sta Z Z.heap Road.SN "COMPACT_STRINGS" "Z" (.int cp)) (hcp : ¬ cp = 0) :
    Road.Con l Z consts_1 n0 false bEtS [] σ #[(.ref a), (.ref q)] h0 (fun v h2 s2 => v = none ∧ Keep h0 h2 [a] ∧ ∃ d, Road.Str Z h2 a d cs ∧ h0.size ≤ d) := by
  refine Road.Con.of bEtS_pn hEW #[.val (.ref a), .val (.ref q)] (fun m => Road.ent (Road.laid1 rfl (Road.laid1 rfl Road.laid0)) (k := 0) rfl rfl) ?_
  intro D hD
  refine Road.aloadN 0 bEtS_d0 rfl ?_
  refine Road.aloadN 1 bEtS_d1 rfl ?_
  refine Road.aconstNull 2 bEtS_d2 ?_
  refine Road.callI (B' := bEtV) (a := a) 3 (argsL := [(.ref q), .null]) (rest := []) 0 bEtS_d3 (hw _ (List.mem_of_getElem? (i := 76) rfl)) (hw _ (List.mem_of_getElem? (i := 77) rfl)) (hw _ (List.mem_of_getElem? (i := 48) rfl)) (hw _ (List.mem_of_getElem? (i := 78) rfl)) rfl rfl (by decide) (cEtV l Z a0 hw n0 hEW a q b cs N h0 σ E Gc Gv S EB hn hcap naq sa cp Hc hcp) (lenOf bEtV_pd rfl) rfl rfl rfl (by decide) (by decide) (ce' := 1) (sl' := 16) rfl rfl (by decide) (by decide) ?_
  rintro _ h_1 σ_2 m_3 ⟨rfl, K_4, d, T, gd⟩
  exact Road.ret 6 bEtS_d6 rfl (by decide) (by decide) (fun σ' m => ⟨rfl, K_4, d, T, gd⟩)
def bEoS : Road.Bdy := (⟨"java/lang/StringBuilder", "toString", "()Ljava/lang/String;"⟩, jdk_67_method_42_code, 1, (some (.object "java/lang/String")), { frames := 4, cells := 2, slots := 20, locals := 59 })
theorem bEoS_d0 : decode bEoS.bs 0 = .ok (.new 18, 3) := by decide +kernel
theorem bEoS_d3 : decode bEoS.bs 3 = .ok (.dup, 1) := by decide +kernel
theorem bEoS_d4 : decode bEoS.bs 4 = .ok (.aload_n 0, 1) := by decide +kernel
theorem bEoS_d5 : decode bEoS.bs 5 = .ok (.invokespecial 137, 3) := by decide +kernel
theorem bEoS_d8 : decode bEoS.bs 8 = .ok (.areturn, 1) := by decide +kernel
theorem bEoS_pd : parseMethodDescriptor "()Ljava/lang/String;" = some ⟨[], (some (.object "java/lang/String"))⟩ := by decide +kernel
theorem bEoS_pn : plainFor bEoS.y = true := plainFor_of_name (show plainName "java/lang/StringBuilder" = true from by first | (simp [plainName, overriddenIn]; done) | decide +kernel)
theorem cEoS (l : Launch) (Z : State) (a0 : Array Value) (hw : ∀ d ∈ tables_1, d.before a0 Z = true) (n0 : Nat) (hEW : EW Z a0 consts_1) (q b : Addr) (cs : List Int32) (N : Nat) (h0 : Heap) (σ : Addr → Prop) (S : Road.Sb Z h0 q b cs N) (EB : Exa Z h0 b "[B") (hn : cs.length = N) (hcap : cs.length ≤ 16) (cp : Int32) (Hc : Sta Z Z.heap Road.SN "COMPACT_STRINGS" "Z" (.int cp)) (hcp : ¬ cp = 0) :
    Road.Con l Z consts_1 n0 false bEoS [] σ #[(.ref q)] h0 (fun v h2 s2 => ∃ a d, v = some (.ref a) ∧ h0.size ≤ a ∧ h0.size ≤ d ∧ Keep h0 h2 [] ∧ Road.Str Z h2 a d cs) := by
  refine Road.Con.of bEoS_pn hEW #[.val (.ref q)] (fun m => Road.ent (Road.laid1 rfl Road.laid0) (k := 0) rfl rfl) ?_
  intro D hD
  refine Road.new 0 "java/lang/String" bEoS_d0 (hw _ (List.mem_of_getElem? (i := 70) rfl)) (hw _ (List.mem_of_getElem? (i := 71) rfl)) (hw _ (List.mem_of_getElem? (i := 48) rfl)) (ce' := 1) (sl' := 4) rfl rfl (by decide) (by decide) ?_
  intro a h_1 σ_2 g_3 K_4 lt_5 m_6 s_7 E D_8 M_9
  have ne_q_a : q ≠ a := Nat.ne_of_lt (Nat.lt_of_lt_of_le S.lt (Nat.le_of_eq g_3.symm))
  have ne_b_a : b ≠ a := Nat.ne_of_lt (Nat.lt_of_lt_of_le S.ltb (Nat.le_of_eq g_3.symm))
  replace S := S.keep K_4 nin0 nin0
  replace EB := EB.keep K_4
  have Gc := D_8 (Or.inr (hw _ (List.mem_of_getElem? (i := 102) rfl))) (ty := .byte) (by decide)
  have Gv := D_8 (Or.inr (hw _ (List.mem_of_getElem? (i := 122) rfl))) (ty := (.array .byte)) (by decide)
  refine Road.dup 3 bEoS_d3 ?_
  refine Road.aloadN 4 bEoS_d4 rfl ?_
  refine Road.callI (B' := bEtS) (a := a) 5 (argsL := [(.ref q)]) (rest := [(.ref a)]) 1 bEoS_d5 (hw _ (List.mem_of_getElem? (i := 72) rfl)) (hw _ (List.mem_of_getElem? (i := 73) rfl)) (hw _ (List.mem_of_getElem? (i := 48) rfl)) (hw _ (List.mem_of_getElem? (i := 75) rfl)) rfl rfl (by decide) (cEtS l Z a0 hw n0 hEW a q b cs N h_1 σ_2 E Gc Gv S EB hn hcap (Ne.symm ne_q_a) s_7 cp Hc hcp) (lenOf bEtS_pd rfl) rfl rfl rfl (by decide) (by decide) (ce' := 2) (sl' := 20) rfl rfl (by decide) (by decide) ?_
  rintro _ h_10 σ_11 m_12 ⟨rfl, K_13, d, T, gd⟩
  replace s_7 := m_12 _ s_7
  exact Road.aret 8 bEoS_d8 (t := (.object "java/lang/String")) rfl rfl rfl (by decide) (by decide) (fun σ' m => ⟨a, d, rfl, Nat.le_of_eq g_3.symm, Nat.le_trans K_4.1 gd, K_4.trans K_13 (by intro x hx; cases List.mem_singleton.mp hx; exact Or.inr (Nat.le_of_eq g_3.symm)), T⟩)
def escC (c : Int32) : List Int32 := if c = 92 then [92, 92] else if c = 10 then [92, 110] else if c = 34 then [92, 34] else [c]
def escL : List Int32 → List Int32
  | [] => []
  | c :: cs => escC c ++ escL cs
theorem escL_app (xs ys : List Int32) : escL (xs ++ ys) = escL xs ++ escL ys := by induction xs with
  | nil => rfl
  | cons c cs ih => show escC c ++ escL (cs ++ ys) = escC c ++ escL cs ++ escL ys; rw [ih, List.append_assoc]
theorem escC_len (c : Int32) : (escC c).length ≤ 2 := by unfold escC; (repeat' split) <;> simp
theorem escL_len (xs : List Int32) : (escL xs).length ≤ 2 * xs.length := by induction xs with
  | nil => simp [escL]
  | cons c cs ih => have := escC_len c; simp only [escL, List.length_append, List.length_cons]; omega
theorem escL_next (xs : List Int32) (k : Nat) (h : k < xs.length) : escL (xs.take (k + 1)) = escL (xs.take k) ++ escC xs[k] := by rw [List.take_succ_eq_append_getElem h, escL_app]; simp [escL]
def bCh : Road.Bdy := (⟨"com/example/meerkat/meerkat/metrics/ExpositionLabelsPinLaw", "ch", "(II)C"⟩, method_4_code, 5, (some .char), { frames := 0, cells := 0, slots := 0, locals := 0 })
theorem bCh_d0 : decode bCh.bs 0 = .ok (.iload_n 0, 1) := by decide +kernel
theorem bCh_d1 : decode bCh.bs 1 = .ok (.bipush 10, 2) := by decide +kernel
theorem bCh_d3 : decode bCh.bs 3 = .ok (.iload_n 1, 1) := by decide +kernel
theorem bCh_d4 : decode bCh.bs 4 = .ok (.imul, 1) := by decide +kernel
theorem bCh_d5 : decode bCh.bs 5 = .ok (.iushr, 1) := by decide +kernel
theorem bCh_d6 : decode bCh.bs 6 = .ok (.sipush 1023, 3) := by decide +kernel
theorem bCh_d9 : decode bCh.bs 9 = .ok (.iand, 1) := by decide +kernel
theorem bCh_d10 : decode bCh.bs 10 = .ok (.istore_n 2, 1) := by decide +kernel
theorem bCh_d11 : decode bCh.bs 11 = .ok (.iload_n 2, 1) := by decide +kernel
theorem bCh_d12 : decode bCh.bs 12 = .ok (.iconst 3, 1) := by decide +kernel
theorem bCh_d13 : decode bCh.bs 13 = .ok (.iand, 1) := by decide +kernel
theorem bCh_d14 : decode bCh.bs 14 = .ok (.istore_n 3, 1) := by decide +kernel
theorem bCh_d15 : decode bCh.bs 15 = .ok (.iload_n 2, 1) := by decide +kernel
theorem bCh_d16 : decode bCh.bs 16 = .ok (.iconst 2, 1) := by decide +kernel
theorem bCh_d17 : decode bCh.bs 17 = .ok (.iushr, 1) := by decide +kernel
theorem bCh_d18 : decode bCh.bs 18 = .ok (.sipush 255, 3) := by decide +kernel
theorem bCh_d21 : decode bCh.bs 21 = .ok (.iand, 1) := by decide +kernel
theorem bCh_d22 : decode bCh.bs 22 = .ok (.i2c, 1) := by decide +kernel
theorem bCh_d23 : decode bCh.bs 23 = .ok (.istore 4, 2) := by decide +kernel
theorem bCh_d25 : decode bCh.bs 25 = .ok (.iload_n 3, 1) := by decide +kernel
theorem bCh_d26 : decode bCh.bs 26 = .ok (.ifCond .ne 6, 3) := by decide +kernel
theorem bCh_d29 : decode bCh.bs 29 = .ok (.bipush 92, 2) := by decide +kernel
theorem bCh_d31 : decode bCh.bs 31 = .ok (.ireturn, 1) := by decide +kernel
theorem bCh_d32 : decode bCh.bs 32 = .ok (.iload_n 3, 1) := by decide +kernel
theorem bCh_d33 : decode bCh.bs 33 = .ok (.iconst 1, 1) := by decide +kernel
theorem bCh_d34 : decode bCh.bs 34 = .ok (.if_icmp .ne 6, 3) := by decide +kernel
theorem bCh_d37 : decode bCh.bs 37 = .ok (.bipush 10, 2) := by decide +kernel
theorem bCh_d39 : decode bCh.bs 39 = .ok (.ireturn, 1) := by decide +kernel
theorem bCh_d40 : decode bCh.bs 40 = .ok (.iload_n 3, 1) := by decide +kernel
theorem bCh_d41 : decode bCh.bs 41 = .ok (.iconst 2, 1) := by decide +kernel
theorem bCh_d42 : decode bCh.bs 42 = .ok (.if_icmp .ne 6, 3) := by decide +kernel
theorem bCh_d45 : decode bCh.bs 45 = .ok (.bipush 34, 2) := by decide +kernel
theorem bCh_d47 : decode bCh.bs 47 = .ok (.ireturn, 1) := by decide +kernel
theorem bCh_d48 : decode bCh.bs 48 = .ok (.iload 4, 2) := by decide +kernel
theorem bCh_d50 : decode bCh.bs 50 = .ok (.ireturn, 1) := by decide +kernel
theorem bCh_pd : parseMethodDescriptor "(II)C" = some ⟨[.int, .int], (some .char)⟩ := by decide +kernel
theorem bCh_pn : plainFor bCh.y = true := plainFor_of_name (show plainName "com/example/meerkat/meerkat/metrics/ExpositionLabelsPinLaw" = true from by first | (simp [plainName, overriddenIn]; done) | decide +kernel)
theorem cCh (l : Launch) (Z : State) (a0 : Array Value) (hw : ∀ d ∈ tables_1, d.before a0 Z = true) (n0 : Nat) (hEW : EW Z a0 consts_1) (x s : Int32) (h0 : Heap) (σ : Addr → Prop)  :
    Road.Con l Z consts_1 n0 false bCh [] σ #[(.int x), (.int s)] h0 (fun v h2 _ => ∃ c : Int32, v = some (.int c) ∧ (0 ≤ c.toInt ∧ c.toInt < 256) ∧ h0 = h2) := by
  refine Road.Con.of bCh_pn hEW #[.val (.int x), .val (.int s), .unset, .unset, .unset] (fun m => Road.ent (Road.laid1 rfl (Road.laid1 rfl Road.laid0)) (k := 3) rfl rfl) ?_
  intro D hD
  refine Road.iloadN 0 bCh_d0 rfl ?_
  refine Road.bipush 1 (10 : Int32) bCh_d1 rfl ?_
  refine Road.iloadN 3 bCh_d3 rfl ?_
  refine Road.imul 4 bCh_d4 ?_
  refine Road.iushr 5 bCh_d5 ?_
  refine Road.sipush 6 (1023 : Int32) bCh_d6 rfl ?_
  refine Road.iand 9 bCh_d9 ?_
  refine Road.istoreN 10 #[.val (.int x), .val (.int s), .val (.int ((XT.ushr x ((10 : Int32) * s)) &&& (1023 : Int32))), .unset, .unset] bCh_d10 rfl ?_
  refine Road.iloadN 11 bCh_d11 rfl ?_
  refine Road.iconst 12 (3 : Int32) bCh_d12 rfl ?_
  refine Road.iand 13 bCh_d13 ?_
  refine Road.istoreN 14 #[.val (.int x), .val (.int s), .val (.int ((XT.ushr x ((10 : Int32) * s)) &&& (1023 : Int32))), .val (.int (((XT.ushr x ((10 : Int32) * s)) &&& (1023 : Int32)) &&& (3 : Int32))), .unset] bCh_d14 rfl ?_
  refine Road.iloadN 15 bCh_d15 rfl ?_
  refine Road.iconst 16 (2 : Int32) bCh_d16 rfl ?_
  refine Road.iushr 17 bCh_d17 ?_
  refine Road.sipush 18 (255 : Int32) bCh_d18 rfl ?_
  refine Road.iand 21 bCh_d21 ?_
  refine Road.i2c 22 bCh_d22 ?_
  refine Road.nameI ?_
  intro z hz
  have lz : 0 ≤ z.toInt ∧ z.toInt < 256 := by rw [hz]; exact Road.and255 _
  clear hz
  refine Road.istore 23 #[.val (.int x), .val (.int s), .val (.int ((XT.ushr x ((10 : Int32) * s)) &&& (1023 : Int32))), .val (.int (((XT.ushr x ((10 : Int32) * s)) &&& (1023 : Int32)) &&& (3 : Int32))), .val (.int z)] bCh_d23 rfl ?_
  refine Road.iloadN 25 bCh_d25 rfl ?_
  refine Road.if_ne 26 32 bCh_d26 rfl (fun hc26 => ?_) (fun hc26 => ?_)
  · skip
    refine Road.iloadN 32 bCh_d32 rfl ?_
    refine Road.iconst 33 (1 : Int32) bCh_d33 rfl ?_
    refine Road.icmp_ne 34 40 bCh_d34 rfl (fun hc34 => ?_) (fun hc34 => ?_)
    · skip
      refine Road.iloadN 40 bCh_d40 rfl ?_
      refine Road.iconst 41 (2 : Int32) bCh_d41 rfl ?_
      refine Road.icmp_ne 42 48 bCh_d42 rfl (fun hc42 => ?_) (fun hc42 => ?_)
      · skip
        refine Road.iload 48 bCh_d48 rfl ?_
        exact Road.iret 50 z bCh_d50 (t := .char) rfl (by simp) (Road.nar_lat lz) (by decide) (by decide) (fun σ' m => ⟨z, rfl, lz, rfl⟩)
      · skip
        refine Road.bipush 45 (34 : Int32) bCh_d45 rfl ?_
        exact Road.iret 47 (34 : Int32) bCh_d47 (t := .char) rfl (by simp) rfl (by decide) (by decide) (fun σ' m => ⟨(34 : Int32), rfl, (by decide), rfl⟩)
    · skip
      refine Road.bipush 37 (10 : Int32) bCh_d37 rfl ?_
      exact Road.iret 39 (10 : Int32) bCh_d39 (t := .char) rfl (by simp) rfl (by decide) (by decide) (fun σ' m => ⟨(10 : Int32), rfl, (by decide), rfl⟩)
  · skip
    refine Road.bipush 29 (92 : Int32) bCh_d29 rfl ?_
    exact Road.iret 31 (92 : Int32) bCh_d31 (t := .char) rfl (by simp) rfl (by decide) (by decide) (fun σ' m => ⟨(92 : Int32), rfl, (by decide), rfl⟩)
def rel (k a b : Int32) (hs : List Int32) : Prop := (k = 0 ∧ hs = []) ∨ (k = 1 ∧ hs = [a]) ∨ (k = 2 ∧ hs = [a, b])
theorem rel_len {k a b : Int32} {hs : List Int32} (h : rel k a b hs) : hs.length ≤ 2 := by rcases h with ⟨-, rfl⟩ | ⟨-, rfl⟩ | ⟨-, rfl⟩ <;> simp
def bVlu : Road.Bdy := (⟨"com/example/meerkat/meerkat/metrics/ExpositionLabelsPinLaw", "value", "(ICC)Ljava/lang/String;"⟩, method_5_code, 3, (some (.object "java/lang/String")), { frames := 4, cells := 3, slots := 8, locals := 70 })
theorem bVlu_d0 : decode bVlu.bs 0 = .ok (.iload_n 0, 1) := by decide +kernel
theorem bVlu_d1 : decode bVlu.bs 1 = .ok (.ifCond .ne 6, 3) := by decide +kernel
theorem bVlu_d4 : decode bVlu.bs 4 = .ok (.ldc 52, 2) := by decide +kernel
theorem bVlu_d6 : decode bVlu.bs 6 = .ok (.areturn, 1) := by decide +kernel
theorem bVlu_d7 : decode bVlu.bs 7 = .ok (.iload_n 0, 1) := by decide +kernel
theorem bVlu_d8 : decode bVlu.bs 8 = .ok (.iconst 1, 1) := by decide +kernel
theorem bVlu_d9 : decode bVlu.bs 9 = .ok (.if_icmp .ne 8, 3) := by decide +kernel
theorem bVlu_d12 : decode bVlu.bs 12 = .ok (.iload_n 1, 1) := by decide +kernel
theorem bVlu_d13 : decode bVlu.bs 13 = .ok (.invokestatic 16, 3) := by decide +kernel
theorem bVlu_d16 : decode bVlu.bs 16 = .ok (.areturn, 1) := by decide +kernel
theorem bVlu_d17 : decode bVlu.bs 17 = .ok (.new 17, 3) := by decide +kernel
theorem bVlu_d20 : decode bVlu.bs 20 = .ok (.dup, 1) := by decide +kernel
theorem bVlu_d21 : decode bVlu.bs 21 = .ok (.iconst 2, 1) := by decide +kernel
theorem bVlu_d22 : decode bVlu.bs 22 = .ok (.newarray .char, 2) := by decide +kernel
theorem bVlu_d24 : decode bVlu.bs 24 = .ok (.dup, 1) := by decide +kernel
theorem bVlu_d25 : decode bVlu.bs 25 = .ok (.iconst 0, 1) := by decide +kernel
theorem bVlu_d26 : decode bVlu.bs 26 = .ok (.iload_n 1, 1) := by decide +kernel
theorem bVlu_d27 : decode bVlu.bs 27 = .ok (.castore, 1) := by decide +kernel
theorem bVlu_d28 : decode bVlu.bs 28 = .ok (.dup, 1) := by decide +kernel
theorem bVlu_d29 : decode bVlu.bs 29 = .ok (.iconst 1, 1) := by decide +kernel
theorem bVlu_d30 : decode bVlu.bs 30 = .ok (.iload_n 2, 1) := by decide +kernel
theorem bVlu_d31 : decode bVlu.bs 31 = .ok (.castore, 1) := by decide +kernel
theorem bVlu_d32 : decode bVlu.bs 32 = .ok (.invokespecial 54, 3) := by decide +kernel
theorem bVlu_d35 : decode bVlu.bs 35 = .ok (.areturn, 1) := by decide +kernel
theorem bVlu_pd : parseMethodDescriptor "(ICC)Ljava/lang/String;" = some ⟨[.int, .char, .char], (some (.object "java/lang/String"))⟩ := by decide +kernel
theorem bVlu_pn : plainFor bVlu.y = true := plainFor_of_name (show plainName "com/example/meerkat/meerkat/metrics/ExpositionLabelsPinLaw" = true from by first | (simp [plainName, overriddenIn]; done) | decide +kernel)
theorem cVlu (l : Launch) (Z : State) (a0 : Array Value) (hw : ∀ d ∈ tables_1, d.before a0 Z = true) (n0 : Nat) (hEW : EW Z a0 consts_1) (k a b : Int32) (h0 : Heap) (σ : Addr → Prop) (la : 0 ≤ a.toInt ∧ a.toInt < 256) (lb : 0 ≤ b.toInt ∧ b.toInt < 256) (hk : k = 0 ∨ k = 1 ∨ k = 2) (cp : Int32) (Hc : Sta Z Z.heap Road.SN "COMPACT_STRINGS" "Z" (.int cp)) (hcp : ¬ cp = 0) :
    Road.Con l Z consts_1 n0 false bVlu [] σ #[(.int k), (.int a), (.int b)] h0 (fun v h2 s2 => ∃ s d hs, v = some (.ref s) ∧ Keep h0 h2 [] ∧ Road.Str Z h2 s d hs ∧ rel k a b hs ∧ (∀ x, σ x → x ≠ s ∧ x ≠ d)) := by
  have wS : ∀ d ∈ Bundle.stringAtoms, d.before a0 Z = true := fun d hd => hw d ((by decide +kernel : ∀ d ∈ Bundle.stringAtoms, d ∈ tables_1) d hd)
  refine Road.Con.of bVlu_pn hEW #[.val (.int k), .val (.int a), .val (.int b)] (fun m => Road.ent (Road.laid1 rfl (Road.laid1 rfl (Road.laid1 rfl Road.laid0))) (k := 0) rfl rfl) ?_
  intro D hD
  refine Road.Go.ownAll ?_
  intro hall
  rcases hk with rfl | rfl | rfl
  · skip
    refine Road.iloadN 0 bVlu_d0 rfl ?_
    refine Road.if_ne 1 7 bVlu_d1 rfl (fun q => absurd q (by decide)) (fun hc1 => ?_)
    refine Road.ldcS 4 "" [] 0 bVlu_d4 (hw _ (List.mem_of_getElem? (i := 183) rfl)) wS (List.mem_of_getElem? (i := 6) rfl) (by decide) (by decide +kernel) (by decide) (by decide) (by decide) (ce' := 2) (sl' := 4) rfl rfl (by decide) (by decide) ?_
    intro s d h_1 σ_2 K_3 m_4 S q_5
    exact Road.aret 6 bVlu_d6 (t := (.object "java/lang/String")) rfl rfl rfl (by decide) (by decide) (fun σ' m => ⟨s, d, [], rfl, K_3, S, Or.inl ⟨rfl, rfl⟩, fun x hx => q_5 x (m_4 x hx)⟩)
  · skip
    refine Road.iloadN 0 bVlu_d0 rfl ?_
    refine Road.if_ne 1 7 bVlu_d1 rfl (fun hc1 => ?_) (fun q => absurd q (by decide))
    refine Road.iloadN 7 bVlu_d7 rfl ?_
    refine Road.iconst 8 (1 : Int32) bVlu_d8 rfl ?_
    refine Road.icmp_ne 9 17 bVlu_d9 rfl (fun q => absurd q (by decide)) (fun hc9 => ?_)
    refine Road.iloadN 12 bVlu_d12 rfl ?_
    refine Road.callS (B' := bVal) 13 (argsL := [(.int a)]) (rest := []) 0 bVlu_d13 (hw _ (List.mem_of_getElem? (i := 138) rfl)) (hw _ (List.mem_of_getElem? (i := 139) rfl)) (hw _ (List.mem_of_getElem? (i := 48) rfl)) (hw _ (List.mem_of_getElem? (i := 140) rfl)) (by decide) (cVal l Z a0 hw n0 hEW a h0 σ la cp Hc hcp) (lenOf bVal_pd rfl) rfl rfl rfl (by decide) (by decide) (ce' := 2) (sl' := 5) rfl rfl (by decide) (by decide) ?_
    rintro _ h_6 σ_7 m_8 ⟨s, d, rfl, gs, gd, K_9, S⟩
    exact Road.aret 16 bVlu_d16 (t := (.object "java/lang/String")) rfl rfl rfl (by decide) (by decide) (fun σ' m => ⟨s, d, [a], rfl, K_9, S, Or.inr (Or.inl ⟨rfl, rfl⟩), fun x hx => ⟨Nat.ne_of_lt (Nat.lt_of_lt_of_le (hall x hx).2 gs), Nat.ne_of_lt (Nat.lt_of_lt_of_le (hall x hx).2 gd)⟩⟩)
  · skip
    have KT := Keep.refl h0 ([] : List Addr)
    refine Road.iloadN 0 bVlu_d0 rfl ?_
    refine Road.if_ne 1 7 bVlu_d1 rfl (fun hc1 => ?_) (fun q => absurd q (by decide))
    refine Road.iloadN 7 bVlu_d7 rfl ?_
    refine Road.iconst 8 (1 : Int32) bVlu_d8 rfl ?_
    refine Road.icmp_ne 9 17 bVlu_d9 rfl (fun hc9 => ?_) (fun q => absurd q (by decide))
    refine Road.new 17 "java/lang/String" bVlu_d17 (hw _ (List.mem_of_getElem? (i := 282) rfl)) (hw _ (List.mem_of_getElem? (i := 71) rfl)) (hw _ (List.mem_of_getElem? (i := 48) rfl)) (ce' := 1) (sl' := 4) rfl rfl (by decide) (by decide) ?_
    intro s h_10 σ_11 g_12 K_13 lt_14 m_15 s_16 Es D_17 M_18
    have gk_s := Nat.le_trans KT.1 (Nat.le_of_eq g_12.symm)
    replace KT := KT.trans K_13 (by simp)
    have Cs := D_17 (Or.inr (hw _ (List.mem_of_getElem? (i := 102) rfl))) (ty := .byte) (by decide)
    have Vs := D_17 (Or.inr (hw _ (List.mem_of_getElem? (i := 122) rfl))) (ty := (.array .byte)) (by decide)
    refine Road.dup 20 bVlu_d20 ?_
    refine Road.iconst 21 (2 : Int32) bVlu_d21 rfl ?_
    refine Road.newarray 22 .char 2 2 bVlu_d22 rfl (hw _ (List.mem_of_getElem? (i := 123) rfl)) (by decide) (by decide) (by decide) (ce' := 2) (sl' := 6) rfl rfl (by decide) (by decide) ?_
    intro t h_19 σ_20 g_21 K_22 lt_23 m_24 s_25 At
    have gk_t := Nat.le_trans KT.1 (Nat.le_of_eq g_21.symm)
    have ne_s_t : s ≠ t := Nat.ne_of_lt (Nat.lt_of_lt_of_le Es.lt (Nat.le_of_eq g_21.symm))
    replace KT := KT.trans K_22 (by simp)
    replace Es := Es.keep K_22
    replace Cs := Cs.keep K_22 nin0
    replace Vs := Vs.keep K_22 nin0
    replace s_16 := m_24 _ s_16
    refine Road.dup 24 bVlu_d24 ?_
    refine Road.iconst 25 (0 : Int32) bVlu_d25 rfl ?_
    refine Road.iloadN 26 bVlu_d26 rfl ?_
    refine Road.castore 27 0 a bVlu_d27 At (by decide) (by simp) (Road.nar_lat la) s_25 ?_
    intro h_26 K_27 A_28
    replace KT := KT.trans K_27 (by intro z hz; simp only [List.mem_cons, List.not_mem_nil, or_false] at hz; rcases hz with rfl <;> first | (exact Or.inr (by assumption)) | (simp; done))
    replace Es := Es.keep K_27
    replace Cs := Cs.keep K_27 (ninS ne_s_t nin0)
    replace Vs := Vs.keep K_27 (ninS ne_s_t nin0)
    replace At := A_28
    refine Road.dup 28 bVlu_d28 ?_
    refine Road.iconst 29 (1 : Int32) bVlu_d29 rfl ?_
    refine Road.iloadN 30 bVlu_d30 rfl ?_
    refine Road.castore 31 1 b bVlu_d31 At (by decide) (by simp) (Road.nar_lat lb) s_25 ?_
    intro h_29 K_30 A_31
    replace KT := KT.trans K_30 (by intro z hz; simp only [List.mem_cons, List.not_mem_nil, or_false] at hz; rcases hz with rfl <;> first | (exact Or.inr (by assumption)) | (simp; done))
    replace Es := Es.keep K_30
    replace Cs := Cs.keep K_30 (ninS ne_s_t nin0)
    replace Vs := Vs.keep K_30 (ninS ne_s_t nin0)
    replace At := A_31
    replace At : Road.Ary Z h_29 t .char (([a, b] : List Int32).map .int) := At
    refine Road.callI (B' := bStr1) (a := s) 32 (argsL := [(.ref t)]) (rest := [(.ref s)]) 1 bVlu_d32 (hw _ (List.mem_of_getElem? (i := 283) rfl)) (hw _ (List.mem_of_getElem? (i := 284) rfl)) (hw _ (List.mem_of_getElem? (i := 48) rfl)) (hw _ (List.mem_of_getElem? (i := 285) rfl)) rfl rfl (by decide) (cStr1 l Z a0 hw n0 hEW s t [a, b] h_29 σ_20 Es Cs Vs At (by simp) (by intro c hc; simp only [List.mem_cons, List.not_mem_nil, or_false] at hc; rcases hc with rfl | rfl <;> assumption) s_16 cp Hc hcp (by simp)) (lenOf bStr1_pd rfl) rfl rfl rfl (by decide) (by decide) (ce' := 3) (sl' := 8) rfl rfl (by decide) (by decide) ?_
    rintro _ h_32 σ_33 m_34 ⟨rfl, K_35, ds, Ss, Ns⟩
    replace KT := KT.trans K_35 (by intro z hz; simp only [List.mem_cons, List.not_mem_nil, or_false] at hz; rcases hz with rfl <;> first | (exact Or.inr (by assumption)) | (simp; done))
    replace s_16 := m_34 _ s_16
    replace s_25 := m_34 _ s_25
    exact Road.aret 35 bVlu_d35 (t := (.object "java/lang/String")) rfl rfl rfl (by decide) (by decide) (fun σ' m => ⟨s, ds, [a, b], rfl, KT, Ss, Or.inr (Or.inr ⟨rfl, rfl⟩), fun x hx => ⟨Nat.ne_of_lt (Nat.lt_of_lt_of_le (hall x hx).2 (Nat.le_of_eq g_12.symm)), Ns x (m_24 x (m_15 x hx))⟩⟩)
def bXsc : Road.Bdy := (⟨"com/example/meerkat/meerkat/metrics/Exposition", "escape", "(Ljava/lang/String;ZLjava/lang/StringBuilder;)V"⟩, prog_10_method_8_code, 5, none, { frames := 5, cells := 4, slots := 24, locals := 75 })
theorem bXsc_d0 : decode bXsc.bs 0 = .ok (.iconst 0, 1) := by decide +kernel
theorem bXsc_d1 : decode bXsc.bs 1 = .ok (.istore_n 3, 1) := by decide +kernel
theorem bXsc_d2 : decode bXsc.bs 2 = .ok (.iload_n 3, 1) := by decide +kernel
theorem bXsc_d3 : decode bXsc.bs 3 = .ok (.aload_n 0, 1) := by decide +kernel
theorem bXsc_d4 : decode bXsc.bs 4 = .ok (.invokevirtual 85, 3) := by decide +kernel
theorem bXsc_d7 : decode bXsc.bs 7 = .ok (.if_icmp .ge 78, 3) := by decide +kernel
theorem bXsc_d10 : decode bXsc.bs 10 = .ok (.aload_n 0, 1) := by decide +kernel
theorem bXsc_d11 : decode bXsc.bs 11 = .ok (.iload_n 3, 1) := by decide +kernel
theorem bXsc_d12 : decode bXsc.bs 12 = .ok (.invokevirtual 88, 3) := by decide +kernel
theorem bXsc_d15 : decode bXsc.bs 15 = .ok (.istore 4, 2) := by decide +kernel
theorem bXsc_d17 : decode bXsc.bs 17 = .ok (.iload 4, 2) := by decide +kernel
theorem bXsc_d19 : decode bXsc.bs 19 = .ok (.bipush 92, 2) := by decide +kernel
theorem bXsc_d21 : decode bXsc.bs 21 = .ok (.if_icmp .ne 13, 3) := by decide +kernel
theorem bXsc_d24 : decode bXsc.bs 24 = .ok (.aload_n 2, 1) := by decide +kernel
theorem bXsc_d25 : decode bXsc.bs 25 = .ok (.ldc 92, 2) := by decide +kernel
theorem bXsc_d27 : decode bXsc.bs 27 = .ok (.invokevirtual 18, 3) := by decide +kernel
theorem bXsc_d30 : decode bXsc.bs 30 = .ok (.pop, 1) := by decide +kernel
theorem bXsc_d31 : decode bXsc.bs 31 = .ok (.goto 48, 3) := by decide +kernel
theorem bXsc_d34 : decode bXsc.bs 34 = .ok (.iload 4, 2) := by decide +kernel
theorem bXsc_d36 : decode bXsc.bs 36 = .ok (.bipush 10, 2) := by decide +kernel
theorem bXsc_d38 : decode bXsc.bs 38 = .ok (.if_icmp .ne 13, 3) := by decide +kernel
theorem bXsc_d41 : decode bXsc.bs 41 = .ok (.aload_n 2, 1) := by decide +kernel
theorem bXsc_d42 : decode bXsc.bs 42 = .ok (.ldc 94, 2) := by decide +kernel
theorem bXsc_d44 : decode bXsc.bs 44 = .ok (.invokevirtual 18, 3) := by decide +kernel
theorem bXsc_d47 : decode bXsc.bs 47 = .ok (.pop, 1) := by decide +kernel
theorem bXsc_d48 : decode bXsc.bs 48 = .ok (.goto 31, 3) := by decide +kernel
theorem bXsc_d51 : decode bXsc.bs 51 = .ok (.iload 4, 2) := by decide +kernel
theorem bXsc_d53 : decode bXsc.bs 53 = .ok (.bipush 34, 2) := by decide +kernel
theorem bXsc_d55 : decode bXsc.bs 55 = .ok (.if_icmp .ne 17, 3) := by decide +kernel
theorem bXsc_d58 : decode bXsc.bs 58 = .ok (.iload_n 1, 1) := by decide +kernel
theorem bXsc_d59 : decode bXsc.bs 59 = .ok (.ifCond .eq 13, 3) := by decide +kernel
theorem bXsc_d62 : decode bXsc.bs 62 = .ok (.aload_n 2, 1) := by decide +kernel
theorem bXsc_d63 : decode bXsc.bs 63 = .ok (.ldc 96, 2) := by decide +kernel
theorem bXsc_d65 : decode bXsc.bs 65 = .ok (.invokevirtual 18, 3) := by decide +kernel
theorem bXsc_d68 : decode bXsc.bs 68 = .ok (.pop, 1) := by decide +kernel
theorem bXsc_d69 : decode bXsc.bs 69 = .ok (.goto 10, 3) := by decide +kernel
theorem bXsc_d72 : decode bXsc.bs 72 = .ok (.aload_n 2, 1) := by decide +kernel
theorem bXsc_d73 : decode bXsc.bs 73 = .ok (.iload 4, 2) := by decide +kernel
theorem bXsc_d75 : decode bXsc.bs 75 = .ok (.invokevirtual 22, 3) := by decide +kernel
theorem bXsc_d78 : decode bXsc.bs 78 = .ok (.pop, 1) := by decide +kernel
theorem bXsc_d79 : decode bXsc.bs 79 = .ok (.iinc 3 1, 3) := by decide +kernel
theorem bXsc_d82 : decode bXsc.bs 82 = .ok (.goto (-80), 3) := by decide +kernel
theorem bXsc_d85 : decode bXsc.bs 85 = .ok (.return_, 1) := by decide +kernel
theorem bXsc_pd : parseMethodDescriptor "(Ljava/lang/String;ZLjava/lang/StringBuilder;)V" = some ⟨[(.object "java/lang/String"), .boolean, (.object "java/lang/StringBuilder")], none⟩ := by decide +kernel
theorem bXsc_pn : plainFor bXsc.y = true := plainFor_of_name (show plainName "com/example/meerkat/meerkat/metrics/Exposition" = true from by first | (simp [plainName, overriddenIn]; done) | decide +kernel)
theorem cXsc (l : Launch) (Z : State) (a0 : Array Value) (hw : ∀ d ∈ tables_1, d.before a0 Z = true) (n0 : Nat) (hEW : EW Z a0 consts_1) (q b : Addr) (cs : List Int32) (N : Nat) (s sd : Addr) (hs : List Int32) (h0 : Heap) (σ : Addr → Prop) (S : Road.Sb Z h0 q b cs N) (T : Road.Str Z h0 s sd hs) (hl : hs.length ≤ 2) (hm : cs.length + 4 ≤ N) (sq : σ q) (sb_ : σ b) (nsq : s ≠ q) (nsb : s ≠ b) (ndq : sd ≠ q) (ndb : sd ≠ b) (cp : Int32) (Hc : Sta Z Z.heap Road.SN "COMPACT_STRINGS" "Z" (.int cp)) (hcp : ¬ cp = 0) (fm : Value) (hfm : fm.isRef = true) (Hf : Sta Z Z.heap "jdk/internal/util/Preconditions" "SIOOBE_FORMATTER" "Ljava/util/function/BiFunction;" fm) :
    Road.Con l Z consts_1 n0 false bXsc [] σ #[(.ref s), (.int (1 : Int32)), (.ref q)] h0 (fun v h2 s2 => v = none ∧ Keep h0 h2 [q, b] ∧ Road.Sb Z h2 q b (cs ++ escL hs) N) := by
  have wS : ∀ d ∈ Bundle.stringAtoms, d.before a0 Z = true := fun d hd => hw d ((by decide +kernel : ∀ d ∈ Bundle.stringAtoms, d ∈ tables_1) d hd)
  refine Road.Con.of bXsc_pn hEW #[.val (.ref s), .val (.int (1 : Int32)), .val (.ref q), .unset, .unset] (fun m => Road.ent (Road.laid1 rfl (Road.laid1 rfl (Road.laid1 rfl Road.laid0))) (k := 2) rfl rfl) ?_
  intro D hD
  refine Road.iconst 0 (0 : Int32) bXsc_d0 rfl ?_
  refine Road.istoreN 1 #[.val (.ref s), .val (.int (1 : Int32)), .val (.ref q), .val (.int (0 : Int32)), .unset] bXsc_d1 rfl ?_
  have KT := Keep.refl h0 [q, b]
  have J2 : ∀ (h : Heap) (τ : Addr → Prop) (w4 : Slot), Road.W1 w4 → Keep h0 h [q, b] → Road.Str Z h s sd hs → Road.Sb Z h q b (cs ++ escL (hs.take 2)) N → τ q → τ b → 2 ≤ hs.length → Road.Go l Z a0 consts_1 n0 false bXsc D (fun v h2 s2 => v = none ∧ Keep h0 h2 [q, b] ∧ Road.Sb Z h2 q b (cs ++ escL hs) N) h τ 4 24 2 #[.val (.ref s), .val (.int (1 : Int32)), .val (.ref q), .val (.int (2 : Int32)), w4] [] := by
    intro h τ w4 hw4 KT T S sq sb_ hk
    refine Road.iloadN 2 bXsc_d2 rfl ?_
    refine Road.aloadN 3 bXsc_d3 rfl ?_
    refine Road.callV (B' := bLen) (a := s) 4 (argsL := []) (rest := [(.int (2 : Int32))]) "java/lang/String" 1 bXsc_d4 (hw _ (List.mem_of_getElem? (i := 245) rfl)) (hw _ (List.mem_of_getElem? (i := 125) rfl)) (fun vm hz => Road.notFace_sib (args := #[]) (mv (s := D.s.setVm vm) hz (hw _ (List.mem_of_getElem? (i := 127) rfl))) rfl) (hw _ (List.mem_of_getElem? (i := 127) rfl)) (hw _ (List.mem_of_getElem? (i := 126) rfl)) (hw _ (List.mem_of_getElem? (i := 48) rfl)) (hw _ (List.mem_of_getElem? (i := 128) rfl)) (by decide) T.1 (cLen l Z a0 hw n0 hEW s sd _ h τ T cp Hc hcp) (lenOf bLen_pd rfl) rfl rfl rfl (by decide) (by decide) (ce' := 4) (sl' := 24) rfl rfl (by decide) (by decide) ?_
    rintro _ h_1 σ_2 m_3 ⟨rfl, rfl⟩
    refine Road.Go.weaken (σ' := τ) m_3 (Nat.le_refl _) (Nat.le_refl _) ?_
    refine Road.icmp_ge 7 85 bXsc_d7 rfl (fun hc7 => ?_) (fun hc7 => ?_)
    · skip
      rw [show (2 : Int32) = Nat.toInt32 2 from rfl, Road.lt32 (by omega) (by omega)] at hc7
      rw [List.take_of_length_le (by omega)] at S
      exact Road.ret 85 bXsc_d85 rfl (by decide) (by decide) (fun σ' m => ⟨rfl, KT, S⟩)
    · skip
      rw [show (2 : Int32) = Nat.toInt32 2 from rfl, Road.lt32 (by omega) (by omega)] at hc7
      exact absurd hc7 (by omega)
  have J1 : ∀ (h : Heap) (τ : Addr → Prop) (w4 : Slot), Road.W1 w4 → Keep h0 h [q, b] → Road.Str Z h s sd hs → Road.Sb Z h q b (cs ++ escL (hs.take 1)) N → τ q → τ b → 1 ≤ hs.length → Road.Go l Z a0 consts_1 n0 false bXsc D (fun v h2 s2 => v = none ∧ Keep h0 h2 [q, b] ∧ Road.Sb Z h2 q b (cs ++ escL hs) N) h τ 2 12 2 #[.val (.ref s), .val (.int (1 : Int32)), .val (.ref q), .val (.int (1 : Int32)), w4] [] := by
    intro h τ w4 hw4 KT T S sq sb_ hk
    refine Road.iloadN 2 bXsc_d2 rfl ?_
    refine Road.aloadN 3 bXsc_d3 rfl ?_
    refine Road.callV (B' := bLen) (a := s) 4 (argsL := []) (rest := [(.int (1 : Int32))]) "java/lang/String" 1 bXsc_d4 (hw _ (List.mem_of_getElem? (i := 245) rfl)) (hw _ (List.mem_of_getElem? (i := 125) rfl)) (fun vm hz => Road.notFace_sib (args := #[]) (mv (s := D.s.setVm vm) hz (hw _ (List.mem_of_getElem? (i := 127) rfl))) rfl) (hw _ (List.mem_of_getElem? (i := 127) rfl)) (hw _ (List.mem_of_getElem? (i := 126) rfl)) (hw _ (List.mem_of_getElem? (i := 48) rfl)) (hw _ (List.mem_of_getElem? (i := 128) rfl)) (by decide) T.1 (cLen l Z a0 hw n0 hEW s sd _ h τ T cp Hc hcp) (lenOf bLen_pd rfl) rfl rfl rfl (by decide) (by decide) (ce' := 2) (sl' := 12) rfl rfl (by decide) (by decide) ?_
    rintro _ h_5 σ_6 m_7 ⟨rfl, rfl⟩
    refine Road.Go.weaken (σ' := τ) m_7 (Nat.le_refl _) (Nat.le_refl _) ?_
    refine Road.icmp_ge 7 85 bXsc_d7 rfl (fun hc7 => ?_) (fun hc7 => ?_)
    · skip
      rw [show (1 : Int32) = Nat.toInt32 1 from rfl, Road.lt32 (by omega) (by omega)] at hc7
      rw [List.take_of_length_le (by omega)] at S
      exact Road.ret 85 bXsc_d85 rfl (by decide) (by decide) (fun σ' m => ⟨rfl, KT, S⟩)
    · skip
      rw [show (1 : Int32) = Nat.toInt32 1 from rfl, Road.lt32 (by omega) (by omega)] at hc7
      have hlen := escL_len (hs.take 1)
      have htk : (hs.take 1).length ≤ 1 := by rw [List.length_take]; omega
      refine Road.aloadN 10 bXsc_d10 rfl ?_
      refine Road.iloadN 11 bXsc_d11 rfl ?_
      refine Road.callV (B' := bChA) (a := s) 12 (argsL := [(.int (1 : Int32))]) (rest := []) "java/lang/String" 0 bXsc_d12 (hw _ (List.mem_of_getElem? (i := 299) rfl)) (hw _ (List.mem_of_getElem? (i := 264) rfl)) (fun vm hz => Road.notFace_sib (args := #[]) (mv (s := D.s.setVm vm) hz (hw _ (List.mem_of_getElem? (i := 127) rfl))) rfl) (hw _ (List.mem_of_getElem? (i := 266) rfl)) (hw _ (List.mem_of_getElem? (i := 265) rfl)) (hw _ (List.mem_of_getElem? (i := 48) rfl)) (hw _ (List.mem_of_getElem? (i := 267) rfl)) (by decide) T.1 (cChA l Z a0 hw n0 hEW s sd hs (1 : Int32) 1 h τ T rfl hc7 cp Hc hcp fm hfm Hf) (lenOf bChA_pd rfl) rfl rfl rfl (by decide) (by decide) (ce' := 2) (sl' := 12) rfl rfl (by decide) (by decide) ?_
      rintro _ h_9 σ_10 m_11 ⟨rfl, rfl⟩
      refine Road.Go.weaken (σ' := τ) m_11 (Nat.le_refl _) (Nat.le_refl _) ?_
      refine Road.nameI ?_
      intro c hc
      have hcl := T.2.2.2.2 _ (List.getElem_mem hc7)
      rw [← hc] at hcl
      have ht : escL (hs.take 2) = escL (hs.take 1) ++ escC c := by rw [hc]; exact escL_next hs 1 hc7
      refine Road.istore 15 #[.val (.ref s), .val (.int (1 : Int32)), .val (.ref q), .val (.int (1 : Int32)), .val (.int c)] bXsc_d15 (by rcases hw4 with rfl | ⟨x, rfl⟩ <;> rfl) ?_
      refine Road.iload 17 bXsc_d17 rfl ?_
      refine Road.bipush 19 (92 : Int32) bXsc_d19 rfl ?_
      refine Road.icmp_ne 21 34 bXsc_d21 rfl (fun e1 => ?_) (fun e1 => ?_)
      · skip
        refine Road.iload 34 bXsc_d34 rfl ?_
        refine Road.bipush 36 (10 : Int32) bXsc_d36 rfl ?_
        refine Road.icmp_ne 38 51 bXsc_d38 rfl (fun e2 => ?_) (fun e2 => ?_)
        · skip
          refine Road.iload 51 bXsc_d51 rfl ?_
          refine Road.bipush 53 (34 : Int32) bXsc_d53 rfl ?_
          refine Road.icmp_ne 55 72 bXsc_d55 rfl (fun e3 => ?_) (fun e3 => ?_)
          · skip
            refine Road.aloadN 72 bXsc_d72 rfl ?_
            refine Road.iload 73 bXsc_d73 rfl ?_
            refine Road.callV (B' := bSc0) (a := q) 75 (argsL := [(.int c)]) (rest := []) "java/lang/StringBuilder" 0 bXsc_d75 (hw _ (List.mem_of_getElem? (i := 246) rfl)) (hw _ (List.mem_of_getElem? (i := 247) rfl)) (fun vm hz => Road.notFace_sib (args := #[]) (mv (s := D.s.setVm vm) hz (hw _ (List.mem_of_getElem? (i := 68) rfl))) rfl) (hw _ (List.mem_of_getElem? (i := 249) rfl)) (hw _ (List.mem_of_getElem? (i := 248) rfl)) (hw _ (List.mem_of_getElem? (i := 36) rfl)) (hw _ (List.mem_of_getElem? (i := 250) rfl)) (by decide) S.1 (cSc0 l Z a0 hw n0 hEW q b _ N c h τ S hcl (by rw [List.length_append]; omega) sb_ sq cp Hc hcp) (lenOf bSc0_pd rfl) rfl rfl rfl (by decide) (by decide) (ce' := 2) (sl' := 12) rfl rfl (by decide) (by decide) ?_
            rintro _ h_13 σ_14 m_15 ⟨rfl, K_16, S⟩
            replace KT := KT.trans K_16 (by intro z hz; simp only [List.mem_cons, List.not_mem_nil, or_false] at hz; rcases hz with rfl | rfl <;> first | (exact Or.inr (by assumption)) | (simp; done))
            replace T := T.keep K_16 (ninS nsq (ninS nsb nin0)) (ninS ndq (ninS ndb nin0))
            replace sq := m_15 _ sq
            replace sb_ := m_15 _ sb_
            rw [List.append_assoc, ← show escC c = [c] from (by unfold escC; rw [if_neg e1, if_neg e2, if_neg e3]), ← ht] at S
            refine Road.pop 78 bXsc_d78 ?_
            refine Road.iinc 79 (1) #[.val (.ref s), .val (.int (1 : Int32)), .val (.ref q), .val (.int ((1 : Int32) + 1)), .val (.int c)] bXsc_d79 rfl rfl rfl ?_
            refine Road.goto 82 2 bXsc_d82 rfl ?_
            rw [show (1 : Int32) + 1 = 2 from by decide]
            exact Road.Go.weaken (σ' := σ_14) (fun _ q => q) (ce' := 4) (sl' := 24) (by decide) (by decide) (J2 h_13 σ_14 (.val (.int c)) (Or.inr ⟨_, rfl⟩) KT T S sq sb_ (by omega))
          · skip
            refine Road.iloadN 58 bXsc_d58 rfl ?_
            refine Road.if_eq 59 72 bXsc_d59 rfl (fun q => absurd q (by decide)) (fun hc59 => ?_)
            refine Road.aloadN 62 bXsc_d62 rfl ?_
            refine Road.ldcS 63 "\\\"" [(92 : Int32), (34 : Int32)] 8 bXsc_d63 (hw _ (List.mem_of_getElem? (i := 319) rfl)) wS (List.mem_of_getElem? (i := 5) rfl) (by decide) (by decide +kernel) (by decide) (by decide) (by decide) (ce' := 4) (sl' := 24) rfl rfl (by decide) (by decide) ?_
            intro a1 b1 h_19 σ_20 K_21 m_22 S1 q_23
            replace KT := KT.trans K_21 (by simp)
            replace T := T.keep K_21 nin0 nin0
            replace S := S.keep K_21 nin0 nin0
            replace sq := m_22 _ sq
            replace sb_ := m_22 _ sb_
            have ne_q_a1 : q ≠ a1 := (q_23 q sq).1
            have ne_q_b1 : q ≠ b1 := (q_23 q sq).2
            have ne_b_a1 : b ≠ a1 := (q_23 b sb_).1
            have ne_b_b1 : b ≠ b1 := (q_23 b sb_).2
            refine Road.callV (B' := bSp0) (a := q) 65 (argsL := [(.ref a1)]) (rest := []) "java/lang/StringBuilder" 0 bXsc_d65 (hw _ (List.mem_of_getElem? (i := 187) rfl)) (hw _ (List.mem_of_getElem? (i := 188) rfl)) (fun vm hz => Road.notFace_sib (args := #[]) (mv (s := D.s.setVm vm) hz (hw _ (List.mem_of_getElem? (i := 68) rfl))) rfl) (hw _ (List.mem_of_getElem? (i := 190) rfl)) (hw _ (List.mem_of_getElem? (i := 189) rfl)) (hw _ (List.mem_of_getElem? (i := 36) rfl)) (hw _ (List.mem_of_getElem? (i := 191) rfl)) (by decide) S.1 (cSp0 l Z a0 hw n0 hEW q b _ N a1 b1 [92, 34] h_19 σ_20 S S1 (by rw [List.length_append]; show _ + 2 ≤ _; omega) sb_ sq cp Hc hcp) (lenOf bSp0_pd rfl) rfl rfl rfl (by decide) (by decide) (ce' := 4) (sl' := 24) rfl rfl (by decide) (by decide) ?_
            rintro _ h_24 σ_25 m_26 ⟨rfl, K_27, S⟩
            replace KT := KT.trans K_27 (by intro z hz; simp only [List.mem_cons, List.not_mem_nil, or_false] at hz; rcases hz with rfl | rfl <;> first | (exact Or.inr (by assumption)) | (simp; done))
            replace T := T.keep K_27 (ninS nsq (ninS nsb nin0)) (ninS ndq (ninS ndb nin0))
            replace sq := m_26 _ sq
            replace sb_ := m_26 _ sb_
            rw [List.append_assoc, ← show escC c = [92, 34] from (by unfold escC; rw [if_neg e1, if_neg e2, if_pos e3]), ← ht] at S
            refine Road.pop 68 bXsc_d68 ?_
            refine Road.goto 69 79 bXsc_d69 rfl ?_
            refine Road.iinc 79 (1) #[.val (.ref s), .val (.int (1 : Int32)), .val (.ref q), .val (.int ((1 : Int32) + 1)), .val (.int c)] bXsc_d79 rfl rfl rfl ?_
            refine Road.goto 82 2 bXsc_d82 rfl ?_
            rw [show (1 : Int32) + 1 = 2 from by decide]
            exact Road.Go.weaken (σ' := σ_25) (fun _ q => q) (ce' := 4) (sl' := 24) (by decide) (by decide) (J2 h_24 σ_25 (.val (.int c)) (Or.inr ⟨_, rfl⟩) KT T S sq sb_ (by omega))
        · skip
          refine Road.aloadN 41 bXsc_d41 rfl ?_
          refine Road.ldcS 42 "\\n" [(92 : Int32), (110 : Int32)] 8 bXsc_d42 (hw _ (List.mem_of_getElem? (i := 320) rfl)) wS (List.mem_of_getElem? (i := 4) rfl) (by decide) (by decide +kernel) (by decide) (by decide) (by decide) (ce' := 4) (sl' := 24) rfl rfl (by decide) (by decide) ?_
          intro a1 b1 h_30 σ_31 K_32 m_33 S1 q_34
          replace KT := KT.trans K_32 (by simp)
          replace T := T.keep K_32 nin0 nin0
          replace S := S.keep K_32 nin0 nin0
          replace sq := m_33 _ sq
          replace sb_ := m_33 _ sb_
          have ne_q_a1 : q ≠ a1 := (q_34 q sq).1
          have ne_q_b1 : q ≠ b1 := (q_34 q sq).2
          have ne_b_a1 : b ≠ a1 := (q_34 b sb_).1
          have ne_b_b1 : b ≠ b1 := (q_34 b sb_).2
          refine Road.callV (B' := bSp0) (a := q) 44 (argsL := [(.ref a1)]) (rest := []) "java/lang/StringBuilder" 0 bXsc_d44 (hw _ (List.mem_of_getElem? (i := 187) rfl)) (hw _ (List.mem_of_getElem? (i := 188) rfl)) (fun vm hz => Road.notFace_sib (args := #[]) (mv (s := D.s.setVm vm) hz (hw _ (List.mem_of_getElem? (i := 68) rfl))) rfl) (hw _ (List.mem_of_getElem? (i := 190) rfl)) (hw _ (List.mem_of_getElem? (i := 189) rfl)) (hw _ (List.mem_of_getElem? (i := 36) rfl)) (hw _ (List.mem_of_getElem? (i := 191) rfl)) (by decide) S.1 (cSp0 l Z a0 hw n0 hEW q b _ N a1 b1 [92, 110] h_30 σ_31 S S1 (by rw [List.length_append]; show _ + 2 ≤ _; omega) sb_ sq cp Hc hcp) (lenOf bSp0_pd rfl) rfl rfl rfl (by decide) (by decide) (ce' := 4) (sl' := 24) rfl rfl (by decide) (by decide) ?_
          rintro _ h_35 σ_36 m_37 ⟨rfl, K_38, S⟩
          replace KT := KT.trans K_38 (by intro z hz; simp only [List.mem_cons, List.not_mem_nil, or_false] at hz; rcases hz with rfl | rfl <;> first | (exact Or.inr (by assumption)) | (simp; done))
          replace T := T.keep K_38 (ninS nsq (ninS nsb nin0)) (ninS ndq (ninS ndb nin0))
          replace sq := m_37 _ sq
          replace sb_ := m_37 _ sb_
          rw [List.append_assoc, ← show escC c = [92, 110] from (by unfold escC; rw [if_neg e1, if_pos e2]), ← ht] at S
          refine Road.pop 47 bXsc_d47 ?_
          refine Road.goto 48 79 bXsc_d48 rfl ?_
          refine Road.iinc 79 (1) #[.val (.ref s), .val (.int (1 : Int32)), .val (.ref q), .val (.int ((1 : Int32) + 1)), .val (.int c)] bXsc_d79 rfl rfl rfl ?_
          refine Road.goto 82 2 bXsc_d82 rfl ?_
          rw [show (1 : Int32) + 1 = 2 from by decide]
          exact Road.Go.weaken (σ' := σ_36) (fun _ q => q) (ce' := 4) (sl' := 24) (by decide) (by decide) (J2 h_35 σ_36 (.val (.int c)) (Or.inr ⟨_, rfl⟩) KT T S sq sb_ (by omega))
      · skip
        refine Road.aloadN 24 bXsc_d24 rfl ?_
        refine Road.ldcS 25 "\\\\" [(92 : Int32), (92 : Int32)] 8 bXsc_d25 (hw _ (List.mem_of_getElem? (i := 300) rfl)) wS (List.mem_of_getElem? (i := 3) rfl) (by decide) (by decide +kernel) (by decide) (by decide) (by decide) (ce' := 4) (sl' := 24) rfl rfl (by decide) (by decide) ?_
        intro a1 b1 h_41 σ_42 K_43 m_44 S1 q_45
        replace KT := KT.trans K_43 (by simp)
        replace T := T.keep K_43 nin0 nin0
        replace S := S.keep K_43 nin0 nin0
        replace sq := m_44 _ sq
        replace sb_ := m_44 _ sb_
        have ne_q_a1 : q ≠ a1 := (q_45 q sq).1
        have ne_q_b1 : q ≠ b1 := (q_45 q sq).2
        have ne_b_a1 : b ≠ a1 := (q_45 b sb_).1
        have ne_b_b1 : b ≠ b1 := (q_45 b sb_).2
        refine Road.callV (B' := bSp0) (a := q) 27 (argsL := [(.ref a1)]) (rest := []) "java/lang/StringBuilder" 0 bXsc_d27 (hw _ (List.mem_of_getElem? (i := 187) rfl)) (hw _ (List.mem_of_getElem? (i := 188) rfl)) (fun vm hz => Road.notFace_sib (args := #[]) (mv (s := D.s.setVm vm) hz (hw _ (List.mem_of_getElem? (i := 68) rfl))) rfl) (hw _ (List.mem_of_getElem? (i := 190) rfl)) (hw _ (List.mem_of_getElem? (i := 189) rfl)) (hw _ (List.mem_of_getElem? (i := 36) rfl)) (hw _ (List.mem_of_getElem? (i := 191) rfl)) (by decide) S.1 (cSp0 l Z a0 hw n0 hEW q b _ N a1 b1 [92, 92] h_41 σ_42 S S1 (by rw [List.length_append]; show _ + 2 ≤ _; omega) sb_ sq cp Hc hcp) (lenOf bSp0_pd rfl) rfl rfl rfl (by decide) (by decide) (ce' := 4) (sl' := 24) rfl rfl (by decide) (by decide) ?_
        rintro _ h_46 σ_47 m_48 ⟨rfl, K_49, S⟩
        replace KT := KT.trans K_49 (by intro z hz; simp only [List.mem_cons, List.not_mem_nil, or_false] at hz; rcases hz with rfl | rfl <;> first | (exact Or.inr (by assumption)) | (simp; done))
        replace T := T.keep K_49 (ninS nsq (ninS nsb nin0)) (ninS ndq (ninS ndb nin0))
        replace sq := m_48 _ sq
        replace sb_ := m_48 _ sb_
        rw [List.append_assoc, ← show escC c = [92, 92] from (by unfold escC; rw [if_pos e1]), ← ht] at S
        refine Road.pop 30 bXsc_d30 ?_
        refine Road.goto 31 79 bXsc_d31 rfl ?_
        refine Road.iinc 79 (1) #[.val (.ref s), .val (.int (1 : Int32)), .val (.ref q), .val (.int ((1 : Int32) + 1)), .val (.int c)] bXsc_d79 rfl rfl rfl ?_
        refine Road.goto 82 2 bXsc_d82 rfl ?_
        rw [show (1 : Int32) + 1 = 2 from by decide]
        exact Road.Go.weaken (σ' := σ_47) (fun _ q => q) (ce' := 4) (sl' := 24) (by decide) (by decide) (J2 h_46 σ_47 (.val (.int c)) (Or.inr ⟨_, rfl⟩) KT T S sq sb_ (by omega))
  have J0 : ∀ (h : Heap) (τ : Addr → Prop) (w4 : Slot), Road.W1 w4 → Keep h0 h [q, b] → Road.Str Z h s sd hs → Road.Sb Z h q b (cs ++ escL (hs.take 0)) N → τ q → τ b → 0 ≤ hs.length → Road.Go l Z a0 consts_1 n0 false bXsc D (fun v h2 s2 => v = none ∧ Keep h0 h2 [q, b] ∧ Road.Sb Z h2 q b (cs ++ escL hs) N) h τ 0 0 2 #[.val (.ref s), .val (.int (1 : Int32)), .val (.ref q), .val (.int (0 : Int32)), w4] [] := by
    intro h τ w4 hw4 KT T S sq sb_ hk
    refine Road.iloadN 2 bXsc_d2 rfl ?_
    refine Road.aloadN 3 bXsc_d3 rfl ?_
    refine Road.callV (B' := bLen) (a := s) 4 (argsL := []) (rest := [(.int (0 : Int32))]) "java/lang/String" 1 bXsc_d4 (hw _ (List.mem_of_getElem? (i := 245) rfl)) (hw _ (List.mem_of_getElem? (i := 125) rfl)) (fun vm hz => Road.notFace_sib (args := #[]) (mv (s := D.s.setVm vm) hz (hw _ (List.mem_of_getElem? (i := 127) rfl))) rfl) (hw _ (List.mem_of_getElem? (i := 127) rfl)) (hw _ (List.mem_of_getElem? (i := 126) rfl)) (hw _ (List.mem_of_getElem? (i := 48) rfl)) (hw _ (List.mem_of_getElem? (i := 128) rfl)) (by decide) T.1 (cLen l Z a0 hw n0 hEW s sd _ h τ T cp Hc hcp) (lenOf bLen_pd rfl) rfl rfl rfl (by decide) (by decide) (ce' := 0) (sl' := 0) rfl rfl (by decide) (by decide) ?_
    rintro _ h_52 σ_53 m_54 ⟨rfl, rfl⟩
    refine Road.Go.weaken (σ' := τ) m_54 (Nat.le_refl _) (Nat.le_refl _) ?_
    refine Road.icmp_ge 7 85 bXsc_d7 rfl (fun hc7 => ?_) (fun hc7 => ?_)
    · skip
      rw [show (0 : Int32) = Nat.toInt32 0 from rfl, Road.lt32 (by omega) (by omega)] at hc7
      rw [List.take_of_length_le (by omega)] at S
      exact Road.ret 85 bXsc_d85 rfl (by decide) (by decide) (fun σ' m => ⟨rfl, KT, S⟩)
    · skip
      rw [show (0 : Int32) = Nat.toInt32 0 from rfl, Road.lt32 (by omega) (by omega)] at hc7
      have hlen := escL_len (hs.take 0)
      have htk : (hs.take 0).length ≤ 0 := by rw [List.length_take]; omega
      refine Road.aloadN 10 bXsc_d10 rfl ?_
      refine Road.iloadN 11 bXsc_d11 rfl ?_
      refine Road.callV (B' := bChA) (a := s) 12 (argsL := [(.int (0 : Int32))]) (rest := []) "java/lang/String" 0 bXsc_d12 (hw _ (List.mem_of_getElem? (i := 299) rfl)) (hw _ (List.mem_of_getElem? (i := 264) rfl)) (fun vm hz => Road.notFace_sib (args := #[]) (mv (s := D.s.setVm vm) hz (hw _ (List.mem_of_getElem? (i := 127) rfl))) rfl) (hw _ (List.mem_of_getElem? (i := 266) rfl)) (hw _ (List.mem_of_getElem? (i := 265) rfl)) (hw _ (List.mem_of_getElem? (i := 48) rfl)) (hw _ (List.mem_of_getElem? (i := 267) rfl)) (by decide) T.1 (cChA l Z a0 hw n0 hEW s sd hs (0 : Int32) 0 h τ T rfl hc7 cp Hc hcp fm hfm Hf) (lenOf bChA_pd rfl) rfl rfl rfl (by decide) (by decide) (ce' := 0) (sl' := 0) rfl rfl (by decide) (by decide) ?_
      rintro _ h_56 σ_57 m_58 ⟨rfl, rfl⟩
      refine Road.Go.weaken (σ' := τ) m_58 (Nat.le_refl _) (Nat.le_refl _) ?_
      refine Road.nameI ?_
      intro c hc
      have hcl := T.2.2.2.2 _ (List.getElem_mem hc7)
      rw [← hc] at hcl
      have ht : escL (hs.take 1) = escL (hs.take 0) ++ escC c := by rw [hc]; exact escL_next hs 0 hc7
      refine Road.istore 15 #[.val (.ref s), .val (.int (1 : Int32)), .val (.ref q), .val (.int (0 : Int32)), .val (.int c)] bXsc_d15 (by rcases hw4 with rfl | ⟨x, rfl⟩ <;> rfl) ?_
      refine Road.iload 17 bXsc_d17 rfl ?_
      refine Road.bipush 19 (92 : Int32) bXsc_d19 rfl ?_
      refine Road.icmp_ne 21 34 bXsc_d21 rfl (fun e1 => ?_) (fun e1 => ?_)
      · skip
        refine Road.iload 34 bXsc_d34 rfl ?_
        refine Road.bipush 36 (10 : Int32) bXsc_d36 rfl ?_
        refine Road.icmp_ne 38 51 bXsc_d38 rfl (fun e2 => ?_) (fun e2 => ?_)
        · skip
          refine Road.iload 51 bXsc_d51 rfl ?_
          refine Road.bipush 53 (34 : Int32) bXsc_d53 rfl ?_
          refine Road.icmp_ne 55 72 bXsc_d55 rfl (fun e3 => ?_) (fun e3 => ?_)
          · skip
            refine Road.aloadN 72 bXsc_d72 rfl ?_
            refine Road.iload 73 bXsc_d73 rfl ?_
            refine Road.callV (B' := bSc0) (a := q) 75 (argsL := [(.int c)]) (rest := []) "java/lang/StringBuilder" 0 bXsc_d75 (hw _ (List.mem_of_getElem? (i := 246) rfl)) (hw _ (List.mem_of_getElem? (i := 247) rfl)) (fun vm hz => Road.notFace_sib (args := #[]) (mv (s := D.s.setVm vm) hz (hw _ (List.mem_of_getElem? (i := 68) rfl))) rfl) (hw _ (List.mem_of_getElem? (i := 249) rfl)) (hw _ (List.mem_of_getElem? (i := 248) rfl)) (hw _ (List.mem_of_getElem? (i := 36) rfl)) (hw _ (List.mem_of_getElem? (i := 250) rfl)) (by decide) S.1 (cSc0 l Z a0 hw n0 hEW q b _ N c h τ S hcl (by rw [List.length_append]; omega) sb_ sq cp Hc hcp) (lenOf bSc0_pd rfl) rfl rfl rfl (by decide) (by decide) (ce' := 0) (sl' := 0) rfl rfl (by decide) (by decide) ?_
            rintro _ h_60 σ_61 m_62 ⟨rfl, K_63, S⟩
            replace KT := KT.trans K_63 (by intro z hz; simp only [List.mem_cons, List.not_mem_nil, or_false] at hz; rcases hz with rfl | rfl <;> first | (exact Or.inr (by assumption)) | (simp; done))
            replace T := T.keep K_63 (ninS nsq (ninS nsb nin0)) (ninS ndq (ninS ndb nin0))
            replace sq := m_62 _ sq
            replace sb_ := m_62 _ sb_
            rw [List.append_assoc, ← show escC c = [c] from (by unfold escC; rw [if_neg e1, if_neg e2, if_neg e3]), ← ht] at S
            refine Road.pop 78 bXsc_d78 ?_
            refine Road.iinc 79 (1) #[.val (.ref s), .val (.int (1 : Int32)), .val (.ref q), .val (.int ((0 : Int32) + 1)), .val (.int c)] bXsc_d79 rfl rfl rfl ?_
            refine Road.goto 82 2 bXsc_d82 rfl ?_
            rw [show (0 : Int32) + 1 = 1 from by decide]
            exact Road.Go.weaken (σ' := σ_61) (fun _ q => q) (ce' := 2) (sl' := 12) (by decide) (by decide) (J1 h_60 σ_61 (.val (.int c)) (Or.inr ⟨_, rfl⟩) KT T S sq sb_ (by omega))
          · skip
            refine Road.iloadN 58 bXsc_d58 rfl ?_
            refine Road.if_eq 59 72 bXsc_d59 rfl (fun q => absurd q (by decide)) (fun hc59 => ?_)
            refine Road.aloadN 62 bXsc_d62 rfl ?_
            refine Road.ldcS 63 "\\\"" [(92 : Int32), (34 : Int32)] 8 bXsc_d63 (hw _ (List.mem_of_getElem? (i := 319) rfl)) wS (List.mem_of_getElem? (i := 5) rfl) (by decide) (by decide +kernel) (by decide) (by decide) (by decide) (ce' := 2) (sl' := 12) rfl rfl (by decide) (by decide) ?_
            intro a1 b1 h_66 σ_67 K_68 m_69 S1 q_70
            replace KT := KT.trans K_68 (by simp)
            replace T := T.keep K_68 nin0 nin0
            replace S := S.keep K_68 nin0 nin0
            replace sq := m_69 _ sq
            replace sb_ := m_69 _ sb_
            have ne_q_a1 : q ≠ a1 := (q_70 q sq).1
            have ne_q_b1 : q ≠ b1 := (q_70 q sq).2
            have ne_b_a1 : b ≠ a1 := (q_70 b sb_).1
            have ne_b_b1 : b ≠ b1 := (q_70 b sb_).2
            refine Road.callV (B' := bSp0) (a := q) 65 (argsL := [(.ref a1)]) (rest := []) "java/lang/StringBuilder" 0 bXsc_d65 (hw _ (List.mem_of_getElem? (i := 187) rfl)) (hw _ (List.mem_of_getElem? (i := 188) rfl)) (fun vm hz => Road.notFace_sib (args := #[]) (mv (s := D.s.setVm vm) hz (hw _ (List.mem_of_getElem? (i := 68) rfl))) rfl) (hw _ (List.mem_of_getElem? (i := 190) rfl)) (hw _ (List.mem_of_getElem? (i := 189) rfl)) (hw _ (List.mem_of_getElem? (i := 36) rfl)) (hw _ (List.mem_of_getElem? (i := 191) rfl)) (by decide) S.1 (cSp0 l Z a0 hw n0 hEW q b _ N a1 b1 [92, 34] h_66 σ_67 S S1 (by rw [List.length_append]; show _ + 2 ≤ _; omega) sb_ sq cp Hc hcp) (lenOf bSp0_pd rfl) rfl rfl rfl (by decide) (by decide) (ce' := 2) (sl' := 12) rfl rfl (by decide) (by decide) ?_
            rintro _ h_71 σ_72 m_73 ⟨rfl, K_74, S⟩
            replace KT := KT.trans K_74 (by intro z hz; simp only [List.mem_cons, List.not_mem_nil, or_false] at hz; rcases hz with rfl | rfl <;> first | (exact Or.inr (by assumption)) | (simp; done))
            replace T := T.keep K_74 (ninS nsq (ninS nsb nin0)) (ninS ndq (ninS ndb nin0))
            replace sq := m_73 _ sq
            replace sb_ := m_73 _ sb_
            rw [List.append_assoc, ← show escC c = [92, 34] from (by unfold escC; rw [if_neg e1, if_neg e2, if_pos e3]), ← ht] at S
            refine Road.pop 68 bXsc_d68 ?_
            refine Road.goto 69 79 bXsc_d69 rfl ?_
            refine Road.iinc 79 (1) #[.val (.ref s), .val (.int (1 : Int32)), .val (.ref q), .val (.int ((0 : Int32) + 1)), .val (.int c)] bXsc_d79 rfl rfl rfl ?_
            refine Road.goto 82 2 bXsc_d82 rfl ?_
            rw [show (0 : Int32) + 1 = 1 from by decide]
            exact Road.Go.weaken (σ' := σ_72) (fun _ q => q) (ce' := 2) (sl' := 12) (by decide) (by decide) (J1 h_71 σ_72 (.val (.int c)) (Or.inr ⟨_, rfl⟩) KT T S sq sb_ (by omega))
        · skip
          refine Road.aloadN 41 bXsc_d41 rfl ?_
          refine Road.ldcS 42 "\\n" [(92 : Int32), (110 : Int32)] 8 bXsc_d42 (hw _ (List.mem_of_getElem? (i := 320) rfl)) wS (List.mem_of_getElem? (i := 4) rfl) (by decide) (by decide +kernel) (by decide) (by decide) (by decide) (ce' := 2) (sl' := 12) rfl rfl (by decide) (by decide) ?_
          intro a1 b1 h_77 σ_78 K_79 m_80 S1 q_81
          replace KT := KT.trans K_79 (by simp)
          replace T := T.keep K_79 nin0 nin0
          replace S := S.keep K_79 nin0 nin0
          replace sq := m_80 _ sq
          replace sb_ := m_80 _ sb_
          have ne_q_a1 : q ≠ a1 := (q_81 q sq).1
          have ne_q_b1 : q ≠ b1 := (q_81 q sq).2
          have ne_b_a1 : b ≠ a1 := (q_81 b sb_).1
          have ne_b_b1 : b ≠ b1 := (q_81 b sb_).2
          refine Road.callV (B' := bSp0) (a := q) 44 (argsL := [(.ref a1)]) (rest := []) "java/lang/StringBuilder" 0 bXsc_d44 (hw _ (List.mem_of_getElem? (i := 187) rfl)) (hw _ (List.mem_of_getElem? (i := 188) rfl)) (fun vm hz => Road.notFace_sib (args := #[]) (mv (s := D.s.setVm vm) hz (hw _ (List.mem_of_getElem? (i := 68) rfl))) rfl) (hw _ (List.mem_of_getElem? (i := 190) rfl)) (hw _ (List.mem_of_getElem? (i := 189) rfl)) (hw _ (List.mem_of_getElem? (i := 36) rfl)) (hw _ (List.mem_of_getElem? (i := 191) rfl)) (by decide) S.1 (cSp0 l Z a0 hw n0 hEW q b _ N a1 b1 [92, 110] h_77 σ_78 S S1 (by rw [List.length_append]; show _ + 2 ≤ _; omega) sb_ sq cp Hc hcp) (lenOf bSp0_pd rfl) rfl rfl rfl (by decide) (by decide) (ce' := 2) (sl' := 12) rfl rfl (by decide) (by decide) ?_
          rintro _ h_82 σ_83 m_84 ⟨rfl, K_85, S⟩
          replace KT := KT.trans K_85 (by intro z hz; simp only [List.mem_cons, List.not_mem_nil, or_false] at hz; rcases hz with rfl | rfl <;> first | (exact Or.inr (by assumption)) | (simp; done))
          replace T := T.keep K_85 (ninS nsq (ninS nsb nin0)) (ninS ndq (ninS ndb nin0))
          replace sq := m_84 _ sq
          replace sb_ := m_84 _ sb_
          rw [List.append_assoc, ← show escC c = [92, 110] from (by unfold escC; rw [if_neg e1, if_pos e2]), ← ht] at S
          refine Road.pop 47 bXsc_d47 ?_
          refine Road.goto 48 79 bXsc_d48 rfl ?_
          refine Road.iinc 79 (1) #[.val (.ref s), .val (.int (1 : Int32)), .val (.ref q), .val (.int ((0 : Int32) + 1)), .val (.int c)] bXsc_d79 rfl rfl rfl ?_
          refine Road.goto 82 2 bXsc_d82 rfl ?_
          rw [show (0 : Int32) + 1 = 1 from by decide]
          exact Road.Go.weaken (σ' := σ_83) (fun _ q => q) (ce' := 2) (sl' := 12) (by decide) (by decide) (J1 h_82 σ_83 (.val (.int c)) (Or.inr ⟨_, rfl⟩) KT T S sq sb_ (by omega))
      · skip
        refine Road.aloadN 24 bXsc_d24 rfl ?_
        refine Road.ldcS 25 "\\\\" [(92 : Int32), (92 : Int32)] 8 bXsc_d25 (hw _ (List.mem_of_getElem? (i := 300) rfl)) wS (List.mem_of_getElem? (i := 3) rfl) (by decide) (by decide +kernel) (by decide) (by decide) (by decide) (ce' := 2) (sl' := 12) rfl rfl (by decide) (by decide) ?_
        intro a1 b1 h_88 σ_89 K_90 m_91 S1 q_92
        replace KT := KT.trans K_90 (by simp)
        replace T := T.keep K_90 nin0 nin0
        replace S := S.keep K_90 nin0 nin0
        replace sq := m_91 _ sq
        replace sb_ := m_91 _ sb_
        have ne_q_a1 : q ≠ a1 := (q_92 q sq).1
        have ne_q_b1 : q ≠ b1 := (q_92 q sq).2
        have ne_b_a1 : b ≠ a1 := (q_92 b sb_).1
        have ne_b_b1 : b ≠ b1 := (q_92 b sb_).2
        refine Road.callV (B' := bSp0) (a := q) 27 (argsL := [(.ref a1)]) (rest := []) "java/lang/StringBuilder" 0 bXsc_d27 (hw _ (List.mem_of_getElem? (i := 187) rfl)) (hw _ (List.mem_of_getElem? (i := 188) rfl)) (fun vm hz => Road.notFace_sib (args := #[]) (mv (s := D.s.setVm vm) hz (hw _ (List.mem_of_getElem? (i := 68) rfl))) rfl) (hw _ (List.mem_of_getElem? (i := 190) rfl)) (hw _ (List.mem_of_getElem? (i := 189) rfl)) (hw _ (List.mem_of_getElem? (i := 36) rfl)) (hw _ (List.mem_of_getElem? (i := 191) rfl)) (by decide) S.1 (cSp0 l Z a0 hw n0 hEW q b _ N a1 b1 [92, 92] h_88 σ_89 S S1 (by rw [List.length_append]; show _ + 2 ≤ _; omega) sb_ sq cp Hc hcp) (lenOf bSp0_pd rfl) rfl rfl rfl (by decide) (by decide) (ce' := 2) (sl' := 12) rfl rfl (by decide) (by decide) ?_
        rintro _ h_93 σ_94 m_95 ⟨rfl, K_96, S⟩
        replace KT := KT.trans K_96 (by intro z hz; simp only [List.mem_cons, List.not_mem_nil, or_false] at hz; rcases hz with rfl | rfl <;> first | (exact Or.inr (by assumption)) | (simp; done))
        replace T := T.keep K_96 (ninS nsq (ninS nsb nin0)) (ninS ndq (ninS ndb nin0))
        replace sq := m_95 _ sq
        replace sb_ := m_95 _ sb_
        rw [List.append_assoc, ← show escC c = [92, 92] from (by unfold escC; rw [if_pos e1]), ← ht] at S
        refine Road.pop 30 bXsc_d30 ?_
        refine Road.goto 31 79 bXsc_d31 rfl ?_
        refine Road.iinc 79 (1) #[.val (.ref s), .val (.int (1 : Int32)), .val (.ref q), .val (.int ((0 : Int32) + 1)), .val (.int c)] bXsc_d79 rfl rfl rfl ?_
        refine Road.goto 82 2 bXsc_d82 rfl ?_
        rw [show (0 : Int32) + 1 = 1 from by decide]
        exact Road.Go.weaken (σ' := σ_94) (fun _ q => q) (ce' := 2) (sl' := 12) (by decide) (by decide) (J1 h_93 σ_94 (.val (.int c)) (Or.inr ⟨_, rfl⟩) KT T S sq sb_ (by omega))
  exact J0 h0 σ .unset (Or.inl rfl) KT T (by simpa [escL] using S) sq sb_ (by omega)
def Buf (Z : State) (h : Heap) (t : Addr) (pre : List Int32) : Prop := ∃ r : List Value, Road.Ary Z h t .char (pre.map .int ++ r) ∧ pre.length + r.length = 18
theorem Buf.keep {Z : State} {h h' : Heap} {t : Addr} {pre : List Int32} {ws : List Addr} (F : Buf Z h t pre) (K : Keep h h' ws) (q : t ∉ ws) : Buf Z h' t pre := by obtain ⟨r, A, e⟩ := F; exact ⟨r, A.keep K q, e⟩
theorem buf_set (pre : List Int32) (c : Int32) (r : List Value) (hl : 1 ≤ r.length) : (pre.map Value.int ++ r).set pre.length (.int c) = (pre ++ [c]).map .int ++ r.drop 1 := by
  have e1 : (pre.map Value.int).length = pre.length := List.length_map _
  cases r with
  | nil => simp at hl
  | cons v r => rw [List.set_append_right _ _ (by omega), e1, Nat.sub_self]; simp
def bPutC : Road.Bdy := (⟨"com/example/meerkat/meerkat/metrics/ExpositionLabelsPinLaw", "put", "([CIC)I"⟩, method_6_code, 3, (some .int), { frames := 0, cells := 0, slots := 0, locals := 0 })
theorem bPutC_d0 : decode bPutC.bs 0 = .ok (.aload_n 0, 1) := by decide +kernel
theorem bPutC_d1 : decode bPutC.bs 1 = .ok (.iload_n 1, 1) := by decide +kernel
theorem bPutC_d2 : decode bPutC.bs 2 = .ok (.iload_n 2, 1) := by decide +kernel
theorem bPutC_d3 : decode bPutC.bs 3 = .ok (.castore, 1) := by decide +kernel
theorem bPutC_d4 : decode bPutC.bs 4 = .ok (.iload_n 1, 1) := by decide +kernel
theorem bPutC_d5 : decode bPutC.bs 5 = .ok (.iconst 1, 1) := by decide +kernel
theorem bPutC_d6 : decode bPutC.bs 6 = .ok (.iadd, 1) := by decide +kernel
theorem bPutC_d7 : decode bPutC.bs 7 = .ok (.ireturn, 1) := by decide +kernel
theorem bPutC_pd : parseMethodDescriptor "([CIC)I" = some ⟨[(.array .char), .int, .char], (some .int)⟩ := by decide +kernel
theorem bPutC_pn : plainFor bPutC.y = true := plainFor_of_name (show plainName "com/example/meerkat/meerkat/metrics/ExpositionLabelsPinLaw" = true from by first | (simp [plainName, overriddenIn]; done) | decide +kernel)
theorem cPutC (l : Launch) (Z : State) (a0 : Array Value) (hw : ∀ d ∈ tables_1, d.before a0 Z = true) (n0 : Nat) (hEW : EW Z a0 consts_1) (t : Addr) (pre : List Int32) (c : Int32) (h0 : Heap) (σ : Addr → Prop) (F : Buf Z h0 t pre) (hl : pre.length < 18) (lc : 0 ≤ c.toInt ∧ c.toInt < 256) (st : σ t) :
    Road.Con l Z consts_1 n0 false bPutC [] σ #[(.ref t), (.int (Nat.toInt32 pre.length)), (.int c)] h0 (fun v h2 _ => v = some (.int (Nat.toInt32 (pre ++ [c]).length)) ∧ Keep h0 h2 [t] ∧ Buf Z h2 t (pre ++ [c])) := by
  obtain ⟨r, A, hr⟩ := F
  refine Road.Con.of bPutC_pn hEW #[.val (.ref t), .val (.int (Nat.toInt32 pre.length)), .val (.int c)] (fun m => Road.ent (Road.laid1 rfl (Road.laid1 rfl (Road.laid1 rfl Road.laid0))) (k := 0) rfl rfl) ?_
  intro D hD
  refine Road.aloadN 0 bPutC_d0 rfl ?_
  refine Road.iloadN 1 bPutC_d1 rfl ?_
  refine Road.iloadN 2 bPutC_d2 rfl ?_
  refine Road.castore 3 (pre).length c bPutC_d3 A (Road.n32 (by omega)) (by simp only [List.length_append, List.length_map, List.length_drop, List.length_cons, List.length_nil]; omega) (Road.nar_lat lc) st ?_
  intro h_1 K_2 A_3
  replace A := A_3
  rw [buf_set _ _ _ (by omega)] at A
  refine Road.iloadN 4 bPutC_d4 rfl ?_
  refine Road.iconst 5 (1 : Int32) bPutC_d5 rfl ?_
  refine Road.iadd 6 bPutC_d6 ?_
  exact Road.iretI 7 bPutC_d7 rfl (by decide) (by decide) (fun σ' m => ⟨by rw [Road.succ32, List.length_append]; rfl, K_2, _, A, by rw [List.length_append, List.length_drop]; simp only [List.length_singleton]; omega⟩)
def bEscC : Road.Bdy := (⟨"com/example/meerkat/meerkat/metrics/ExpositionLabelsPinLaw", "esc", "([CIC)I"⟩, method_7_code, 3, (some .int), { frames := 0, cells := 0, slots := 0, locals := 0 })
theorem bEscC_d0 : decode bEscC.bs 0 = .ok (.iload_n 2, 1) := by decide +kernel
theorem bEscC_d1 : decode bEscC.bs 1 = .ok (.bipush 92, 2) := by decide +kernel
theorem bEscC_d3 : decode bEscC.bs 3 = .ok (.if_icmp .ne 19, 3) := by decide +kernel
theorem bEscC_d6 : decode bEscC.bs 6 = .ok (.aload_n 0, 1) := by decide +kernel
theorem bEscC_d7 : decode bEscC.bs 7 = .ok (.iload_n 1, 1) := by decide +kernel
theorem bEscC_d8 : decode bEscC.bs 8 = .ok (.bipush 92, 2) := by decide +kernel
theorem bEscC_d10 : decode bEscC.bs 10 = .ok (.castore, 1) := by decide +kernel
theorem bEscC_d11 : decode bEscC.bs 11 = .ok (.aload_n 0, 1) := by decide +kernel
theorem bEscC_d12 : decode bEscC.bs 12 = .ok (.iload_n 1, 1) := by decide +kernel
theorem bEscC_d13 : decode bEscC.bs 13 = .ok (.iconst 1, 1) := by decide +kernel
theorem bEscC_d14 : decode bEscC.bs 14 = .ok (.iadd, 1) := by decide +kernel
theorem bEscC_d15 : decode bEscC.bs 15 = .ok (.bipush 92, 2) := by decide +kernel
theorem bEscC_d17 : decode bEscC.bs 17 = .ok (.castore, 1) := by decide +kernel
theorem bEscC_d18 : decode bEscC.bs 18 = .ok (.iload_n 1, 1) := by decide +kernel
theorem bEscC_d19 : decode bEscC.bs 19 = .ok (.iconst 2, 1) := by decide +kernel
theorem bEscC_d20 : decode bEscC.bs 20 = .ok (.iadd, 1) := by decide +kernel
theorem bEscC_d21 : decode bEscC.bs 21 = .ok (.ireturn, 1) := by decide +kernel
theorem bEscC_d22 : decode bEscC.bs 22 = .ok (.iload_n 2, 1) := by decide +kernel
theorem bEscC_d23 : decode bEscC.bs 23 = .ok (.bipush 10, 2) := by decide +kernel
theorem bEscC_d25 : decode bEscC.bs 25 = .ok (.if_icmp .ne 19, 3) := by decide +kernel
theorem bEscC_d28 : decode bEscC.bs 28 = .ok (.aload_n 0, 1) := by decide +kernel
theorem bEscC_d29 : decode bEscC.bs 29 = .ok (.iload_n 1, 1) := by decide +kernel
theorem bEscC_d30 : decode bEscC.bs 30 = .ok (.bipush 92, 2) := by decide +kernel
theorem bEscC_d32 : decode bEscC.bs 32 = .ok (.castore, 1) := by decide +kernel
theorem bEscC_d33 : decode bEscC.bs 33 = .ok (.aload_n 0, 1) := by decide +kernel
theorem bEscC_d34 : decode bEscC.bs 34 = .ok (.iload_n 1, 1) := by decide +kernel
theorem bEscC_d35 : decode bEscC.bs 35 = .ok (.iconst 1, 1) := by decide +kernel
theorem bEscC_d36 : decode bEscC.bs 36 = .ok (.iadd, 1) := by decide +kernel
theorem bEscC_d37 : decode bEscC.bs 37 = .ok (.bipush 110, 2) := by decide +kernel
theorem bEscC_d39 : decode bEscC.bs 39 = .ok (.castore, 1) := by decide +kernel
theorem bEscC_d40 : decode bEscC.bs 40 = .ok (.iload_n 1, 1) := by decide +kernel
theorem bEscC_d41 : decode bEscC.bs 41 = .ok (.iconst 2, 1) := by decide +kernel
theorem bEscC_d42 : decode bEscC.bs 42 = .ok (.iadd, 1) := by decide +kernel
theorem bEscC_d43 : decode bEscC.bs 43 = .ok (.ireturn, 1) := by decide +kernel
theorem bEscC_d44 : decode bEscC.bs 44 = .ok (.iload_n 2, 1) := by decide +kernel
theorem bEscC_d45 : decode bEscC.bs 45 = .ok (.bipush 34, 2) := by decide +kernel
theorem bEscC_d47 : decode bEscC.bs 47 = .ok (.if_icmp .ne 19, 3) := by decide +kernel
theorem bEscC_d50 : decode bEscC.bs 50 = .ok (.aload_n 0, 1) := by decide +kernel
theorem bEscC_d51 : decode bEscC.bs 51 = .ok (.iload_n 1, 1) := by decide +kernel
theorem bEscC_d52 : decode bEscC.bs 52 = .ok (.bipush 92, 2) := by decide +kernel
theorem bEscC_d54 : decode bEscC.bs 54 = .ok (.castore, 1) := by decide +kernel
theorem bEscC_d55 : decode bEscC.bs 55 = .ok (.aload_n 0, 1) := by decide +kernel
theorem bEscC_d56 : decode bEscC.bs 56 = .ok (.iload_n 1, 1) := by decide +kernel
theorem bEscC_d57 : decode bEscC.bs 57 = .ok (.iconst 1, 1) := by decide +kernel
theorem bEscC_d58 : decode bEscC.bs 58 = .ok (.iadd, 1) := by decide +kernel
theorem bEscC_d59 : decode bEscC.bs 59 = .ok (.bipush 34, 2) := by decide +kernel
theorem bEscC_d61 : decode bEscC.bs 61 = .ok (.castore, 1) := by decide +kernel
theorem bEscC_d62 : decode bEscC.bs 62 = .ok (.iload_n 1, 1) := by decide +kernel
theorem bEscC_d63 : decode bEscC.bs 63 = .ok (.iconst 2, 1) := by decide +kernel
theorem bEscC_d64 : decode bEscC.bs 64 = .ok (.iadd, 1) := by decide +kernel
theorem bEscC_d65 : decode bEscC.bs 65 = .ok (.ireturn, 1) := by decide +kernel
theorem bEscC_d66 : decode bEscC.bs 66 = .ok (.aload_n 0, 1) := by decide +kernel
theorem bEscC_d67 : decode bEscC.bs 67 = .ok (.iload_n 1, 1) := by decide +kernel
theorem bEscC_d68 : decode bEscC.bs 68 = .ok (.iload_n 2, 1) := by decide +kernel
theorem bEscC_d69 : decode bEscC.bs 69 = .ok (.castore, 1) := by decide +kernel
theorem bEscC_d70 : decode bEscC.bs 70 = .ok (.iload_n 1, 1) := by decide +kernel
theorem bEscC_d71 : decode bEscC.bs 71 = .ok (.iconst 1, 1) := by decide +kernel
theorem bEscC_d72 : decode bEscC.bs 72 = .ok (.iadd, 1) := by decide +kernel
theorem bEscC_d73 : decode bEscC.bs 73 = .ok (.ireturn, 1) := by decide +kernel
theorem bEscC_pd : parseMethodDescriptor "([CIC)I" = some ⟨[(.array .char), .int, .char], (some .int)⟩ := by decide +kernel
theorem bEscC_pn : plainFor bEscC.y = true := plainFor_of_name (show plainName "com/example/meerkat/meerkat/metrics/ExpositionLabelsPinLaw" = true from by first | (simp [plainName, overriddenIn]; done) | decide +kernel)
theorem cEscC (l : Launch) (Z : State) (a0 : Array Value) (hw : ∀ d ∈ tables_1, d.before a0 Z = true) (n0 : Nat) (hEW : EW Z a0 consts_1) (t : Addr) (pre : List Int32) (c : Int32) (h0 : Heap) (σ : Addr → Prop) (F : Buf Z h0 t pre) (hl : pre.length + 2 ≤ 18) (lc : 0 ≤ c.toInt ∧ c.toInt < 256) (st : σ t) :
    Road.Con l Z consts_1 n0 false bEscC [] σ #[(.ref t), (.int (Nat.toInt32 pre.length)), (.int c)] h0 (fun v h2 _ => v = some (.int (Nat.toInt32 (pre ++ escC c).length)) ∧ Keep h0 h2 [t] ∧ Buf Z h2 t (pre ++ escC c)) := by
  obtain ⟨r, A, hr⟩ := F
  refine Road.Con.of bEscC_pn hEW #[.val (.ref t), .val (.int (Nat.toInt32 pre.length)), .val (.int c)] (fun m => Road.ent (Road.laid1 rfl (Road.laid1 rfl (Road.laid1 rfl Road.laid0))) (k := 0) rfl rfl) ?_
  intro D hD
  refine Road.iloadN 0 bEscC_d0 rfl ?_
  refine Road.bipush 1 (92 : Int32) bEscC_d1 rfl ?_
  refine Road.icmp_ne 3 22 bEscC_d3 rfl (fun e1 => ?_) (fun e1 => ?_)
  · skip
    refine Road.iloadN 22 bEscC_d22 rfl ?_
    refine Road.bipush 23 (10 : Int32) bEscC_d23 rfl ?_
    refine Road.icmp_ne 25 44 bEscC_d25 rfl (fun e2 => ?_) (fun e2 => ?_)
    · skip
      refine Road.iloadN 44 bEscC_d44 rfl ?_
      refine Road.bipush 45 (34 : Int32) bEscC_d45 rfl ?_
      refine Road.icmp_ne 47 66 bEscC_d47 rfl (fun e3 => ?_) (fun e3 => ?_)
      · skip
        have ec : escC c = [c] := by unfold escC; rw [if_neg e1, if_neg e2, if_neg e3]
        rw [ec]
        refine Road.aloadN 66 bEscC_d66 rfl ?_
        refine Road.iloadN 67 bEscC_d67 rfl ?_
        refine Road.iloadN 68 bEscC_d68 rfl ?_
        refine Road.castore 69 (pre).length c bEscC_d69 A (Road.n32 (by omega)) (by simp only [List.length_append, List.length_map, List.length_drop, List.length_cons, List.length_nil]; omega) (Road.nar_lat lc) st ?_
        intro h_1 K_2 A_3
        replace A := A_3
        rw [buf_set _ _ _ (by omega)] at A
        refine Road.iloadN 70 bEscC_d70 rfl ?_
        refine Road.iconst 71 (1 : Int32) bEscC_d71 rfl ?_
        refine Road.iadd 72 bEscC_d72 ?_
        exact Road.iretI 73 bEscC_d73 rfl (by decide) (by decide) (fun σ' m => ⟨by rw [Road.succ32, List.length_append]; rfl, K_2, _, A, by rw [List.length_append, List.length_drop]; simp only [List.length_singleton]; omega⟩)
      · skip
        have ec : escC c = [92, 34] := by unfold escC; rw [if_neg e1, if_neg e2, if_pos e3]
        rw [ec]
        refine Road.aloadN 50 bEscC_d50 rfl ?_
        refine Road.iloadN 51 bEscC_d51 rfl ?_
        refine Road.bipush 52 (92 : Int32) bEscC_d52 rfl ?_
        refine Road.castore 54 (pre).length (92 : Int32) bEscC_d54 A (Road.n32 (by omega)) (by simp only [List.length_append, List.length_map, List.length_drop, List.length_cons, List.length_nil]; omega) rfl st ?_
        intro h_4 K_5 A_6
        replace A := A_6
        rw [buf_set _ _ _ (by omega)] at A
        refine Road.aloadN 55 bEscC_d55 rfl ?_
        refine Road.iloadN 56 bEscC_d56 rfl ?_
        refine Road.iconst 57 (1 : Int32) bEscC_d57 rfl ?_
        refine Road.iadd 58 bEscC_d58 ?_
        refine Road.nameI ?_
        intro z_7 hz_7
        obtain rfl : z_7 = (Nat.toInt32 (pre ++ [92]).length) := by rw [hz_7]; rw [Road.succ32, List.length_append]; rfl
        have hr2 : (r.drop 1).length + 1 = r.length := by rw [List.length_drop]; omega
        have hp2 : (pre ++ [(92 : Int32)]).length = pre.length + 1 := by rw [List.length_append]; rfl
        refine Road.bipush 59 (34 : Int32) bEscC_d59 rfl ?_
        refine Road.castore 61 (pre ++ [(92 : Int32)]).length (34 : Int32) bEscC_d61 A (Road.n32 (by omega)) (by simp only [List.length_append, List.length_map, List.length_drop, List.length_cons, List.length_nil]; omega) rfl st ?_
        intro h_8 K_9 A_10
        replace A := A_10
        rw [buf_set _ _ _ (by omega)] at A
        refine Road.iloadN 62 bEscC_d62 rfl ?_
        refine Road.iconst 63 (2 : Int32) bEscC_d63 rfl ?_
        refine Road.iadd 64 bEscC_d64 ?_
        exact Road.iretI 65 bEscC_d65 rfl (by decide) (by decide) (fun σ' m => ⟨by rw [show (2 : Int32) = Nat.toInt32 2 from rfl, Road.add32n, List.length_append]; rfl, K_5.trans K_9 (by simp), _, by rw [List.append_assoc] at A; exact A, by rw [List.length_append, List.length_drop]; simp only [List.length_cons, List.length_nil]; omega⟩)
    · skip
      have ec : escC c = [92, 110] := by unfold escC; rw [if_neg e1, if_pos e2]
      rw [ec]
      refine Road.aloadN 28 bEscC_d28 rfl ?_
      refine Road.iloadN 29 bEscC_d29 rfl ?_
      refine Road.bipush 30 (92 : Int32) bEscC_d30 rfl ?_
      refine Road.castore 32 (pre).length (92 : Int32) bEscC_d32 A (Road.n32 (by omega)) (by simp only [List.length_append, List.length_map, List.length_drop, List.length_cons, List.length_nil]; omega) rfl st ?_
      intro h_11 K_12 A_13
      replace A := A_13
      rw [buf_set _ _ _ (by omega)] at A
      refine Road.aloadN 33 bEscC_d33 rfl ?_
      refine Road.iloadN 34 bEscC_d34 rfl ?_
      refine Road.iconst 35 (1 : Int32) bEscC_d35 rfl ?_
      refine Road.iadd 36 bEscC_d36 ?_
      refine Road.nameI ?_
      intro z_14 hz_14
      obtain rfl : z_14 = (Nat.toInt32 (pre ++ [92]).length) := by rw [hz_14]; rw [Road.succ32, List.length_append]; rfl
      have hr2 : (r.drop 1).length + 1 = r.length := by rw [List.length_drop]; omega
      have hp2 : (pre ++ [(92 : Int32)]).length = pre.length + 1 := by rw [List.length_append]; rfl
      refine Road.bipush 37 (110 : Int32) bEscC_d37 rfl ?_
      refine Road.castore 39 (pre ++ [(92 : Int32)]).length (110 : Int32) bEscC_d39 A (Road.n32 (by omega)) (by simp only [List.length_append, List.length_map, List.length_drop, List.length_cons, List.length_nil]; omega) rfl st ?_
      intro h_15 K_16 A_17
      replace A := A_17
      rw [buf_set _ _ _ (by omega)] at A
      refine Road.iloadN 40 bEscC_d40 rfl ?_
      refine Road.iconst 41 (2 : Int32) bEscC_d41 rfl ?_
      refine Road.iadd 42 bEscC_d42 ?_
      exact Road.iretI 43 bEscC_d43 rfl (by decide) (by decide) (fun σ' m => ⟨by rw [show (2 : Int32) = Nat.toInt32 2 from rfl, Road.add32n, List.length_append]; rfl, K_12.trans K_16 (by simp), _, by rw [List.append_assoc] at A; exact A, by rw [List.length_append, List.length_drop]; simp only [List.length_cons, List.length_nil]; omega⟩)
  · skip
    have ec : escC c = [92, 92] := by unfold escC; rw [if_pos e1]
    rw [ec]
    refine Road.aloadN 6 bEscC_d6 rfl ?_
    refine Road.iloadN 7 bEscC_d7 rfl ?_
    refine Road.bipush 8 (92 : Int32) bEscC_d8 rfl ?_
    refine Road.castore 10 (pre).length (92 : Int32) bEscC_d10 A (Road.n32 (by omega)) (by simp only [List.length_append, List.length_map, List.length_drop, List.length_cons, List.length_nil]; omega) rfl st ?_
    intro h_18 K_19 A_20
    replace A := A_20
    rw [buf_set _ _ _ (by omega)] at A
    refine Road.aloadN 11 bEscC_d11 rfl ?_
    refine Road.iloadN 12 bEscC_d12 rfl ?_
    refine Road.iconst 13 (1 : Int32) bEscC_d13 rfl ?_
    refine Road.iadd 14 bEscC_d14 ?_
    refine Road.nameI ?_
    intro z_21 hz_21
    obtain rfl : z_21 = (Nat.toInt32 (pre ++ [92]).length) := by rw [hz_21]; rw [Road.succ32, List.length_append]; rfl
    have hr2 : (r.drop 1).length + 1 = r.length := by rw [List.length_drop]; omega
    have hp2 : (pre ++ [(92 : Int32)]).length = pre.length + 1 := by rw [List.length_append]; rfl
    refine Road.bipush 15 (92 : Int32) bEscC_d15 rfl ?_
    refine Road.castore 17 (pre ++ [(92 : Int32)]).length (92 : Int32) bEscC_d17 A (Road.n32 (by omega)) (by simp only [List.length_append, List.length_map, List.length_drop, List.length_cons, List.length_nil]; omega) rfl st ?_
    intro h_22 K_23 A_24
    replace A := A_24
    rw [buf_set _ _ _ (by omega)] at A
    refine Road.iloadN 18 bEscC_d18 rfl ?_
    refine Road.iconst 19 (2 : Int32) bEscC_d19 rfl ?_
    refine Road.iadd 20 bEscC_d20 ?_
    exact Road.iretI 21 bEscC_d21 rfl (by decide) (by decide) (fun σ' m => ⟨by rw [show (2 : Int32) = Nat.toInt32 2 from rfl, Road.add32n, List.length_append]; rfl, K_19.trans K_23 (by simp), _, by rw [List.append_assoc] at A; exact A, by rw [List.length_append, List.length_drop]; simp only [List.length_cons, List.length_nil]; omega⟩)
def labL (first : Bool) (nm : Int32) (hs : List Int32) : List Int32 := (if first then [] else [44]) ++ ([nm] ++ [61, 34] ++ escL hs ++ [34])
theorem labL_len (f : Bool) (nm : Int32) (hs : List Int32) (h : hs.length ≤ 2) : (labL f nm hs).length ≤ (if f then 8 else 9) := by have := escL_len hs; unfold labL; cases f <;> simp <;> omega
def bLbl : Road.Bdy := (⟨"com/example/meerkat/meerkat/metrics/ExpositionLabelsPinLaw", "label", "([CIZCICC)I"⟩, method_8_code, 8, (some .int), { frames := 1, cells := 0, slots := 0, locals := 14 })
theorem bLbl_d0 : decode bLbl.bs 0 = .ok (.iload_n 1, 1) := by decide +kernel
theorem bLbl_d1 : decode bLbl.bs 1 = .ok (.istore 7, 2) := by decide +kernel
theorem bLbl_d3 : decode bLbl.bs 3 = .ok (.iload_n 2, 1) := by decide +kernel
theorem bLbl_d4 : decode bLbl.bs 4 = .ok (.ifCond .ne 13, 3) := by decide +kernel
theorem bLbl_d7 : decode bLbl.bs 7 = .ok (.aload_n 0, 1) := by decide +kernel
theorem bLbl_d8 : decode bLbl.bs 8 = .ok (.iload 7, 2) := by decide +kernel
theorem bLbl_d10 : decode bLbl.bs 10 = .ok (.bipush 44, 2) := by decide +kernel
theorem bLbl_d12 : decode bLbl.bs 12 = .ok (.invokestatic 57, 3) := by decide +kernel
theorem bLbl_d15 : decode bLbl.bs 15 = .ok (.istore 7, 2) := by decide +kernel
theorem bLbl_d17 : decode bLbl.bs 17 = .ok (.aload_n 0, 1) := by decide +kernel
theorem bLbl_d18 : decode bLbl.bs 18 = .ok (.iload 7, 2) := by decide +kernel
theorem bLbl_d20 : decode bLbl.bs 20 = .ok (.iload_n 3, 1) := by decide +kernel
theorem bLbl_d21 : decode bLbl.bs 21 = .ok (.invokestatic 57, 3) := by decide +kernel
theorem bLbl_d24 : decode bLbl.bs 24 = .ok (.istore 7, 2) := by decide +kernel
theorem bLbl_d26 : decode bLbl.bs 26 = .ok (.aload_n 0, 1) := by decide +kernel
theorem bLbl_d27 : decode bLbl.bs 27 = .ok (.iload 7, 2) := by decide +kernel
theorem bLbl_d29 : decode bLbl.bs 29 = .ok (.bipush 61, 2) := by decide +kernel
theorem bLbl_d31 : decode bLbl.bs 31 = .ok (.invokestatic 57, 3) := by decide +kernel
theorem bLbl_d34 : decode bLbl.bs 34 = .ok (.istore 7, 2) := by decide +kernel
theorem bLbl_d36 : decode bLbl.bs 36 = .ok (.aload_n 0, 1) := by decide +kernel
theorem bLbl_d37 : decode bLbl.bs 37 = .ok (.iload 7, 2) := by decide +kernel
theorem bLbl_d39 : decode bLbl.bs 39 = .ok (.bipush 34, 2) := by decide +kernel
theorem bLbl_d41 : decode bLbl.bs 41 = .ok (.invokestatic 57, 3) := by decide +kernel
theorem bLbl_d44 : decode bLbl.bs 44 = .ok (.istore 7, 2) := by decide +kernel
theorem bLbl_d46 : decode bLbl.bs 46 = .ok (.iload 4, 2) := by decide +kernel
theorem bLbl_d48 : decode bLbl.bs 48 = .ok (.iconst 1, 1) := by decide +kernel
theorem bLbl_d49 : decode bLbl.bs 49 = .ok (.if_icmp .lt 13, 3) := by decide +kernel
theorem bLbl_d52 : decode bLbl.bs 52 = .ok (.aload_n 0, 1) := by decide +kernel
theorem bLbl_d53 : decode bLbl.bs 53 = .ok (.iload 7, 2) := by decide +kernel
theorem bLbl_d55 : decode bLbl.bs 55 = .ok (.iload 5, 2) := by decide +kernel
theorem bLbl_d57 : decode bLbl.bs 57 = .ok (.invokestatic 61, 3) := by decide +kernel
theorem bLbl_d60 : decode bLbl.bs 60 = .ok (.istore 7, 2) := by decide +kernel
theorem bLbl_d62 : decode bLbl.bs 62 = .ok (.iload 4, 2) := by decide +kernel
theorem bLbl_d64 : decode bLbl.bs 64 = .ok (.iconst 2, 1) := by decide +kernel
theorem bLbl_d65 : decode bLbl.bs 65 = .ok (.if_icmp .lt 13, 3) := by decide +kernel
theorem bLbl_d68 : decode bLbl.bs 68 = .ok (.aload_n 0, 1) := by decide +kernel
theorem bLbl_d69 : decode bLbl.bs 69 = .ok (.iload 7, 2) := by decide +kernel
theorem bLbl_d71 : decode bLbl.bs 71 = .ok (.iload 6, 2) := by decide +kernel
theorem bLbl_d73 : decode bLbl.bs 73 = .ok (.invokestatic 61, 3) := by decide +kernel
theorem bLbl_d76 : decode bLbl.bs 76 = .ok (.istore 7, 2) := by decide +kernel
theorem bLbl_d78 : decode bLbl.bs 78 = .ok (.aload_n 0, 1) := by decide +kernel
theorem bLbl_d79 : decode bLbl.bs 79 = .ok (.iload 7, 2) := by decide +kernel
theorem bLbl_d81 : decode bLbl.bs 81 = .ok (.bipush 34, 2) := by decide +kernel
theorem bLbl_d83 : decode bLbl.bs 83 = .ok (.invokestatic 57, 3) := by decide +kernel
theorem bLbl_d86 : decode bLbl.bs 86 = .ok (.istore 7, 2) := by decide +kernel
theorem bLbl_d88 : decode bLbl.bs 88 = .ok (.iload 7, 2) := by decide +kernel
theorem bLbl_d90 : decode bLbl.bs 90 = .ok (.ireturn, 1) := by decide +kernel
theorem bLbl_pd : parseMethodDescriptor "([CIZCICC)I" = some ⟨[(.array .char), .int, .boolean, .char, .int, .char, .char], (some .int)⟩ := by decide +kernel
theorem bLbl_pn : plainFor bLbl.y = true := plainFor_of_name (show plainName "com/example/meerkat/meerkat/metrics/ExpositionLabelsPinLaw" = true from by first | (simp [plainName, overriddenIn]; done) | decide +kernel)
theorem cLbl1 (l : Launch) (Z : State) (a0 : Array Value) (hw : ∀ d ∈ tables_1, d.before a0 Z = true) (n0 : Nat) (hEW : EW Z a0 consts_1) (t : Addr) (pre : List Int32) (nm k a b : Int32) (hs : List Int32) (h0 : Heap) (σ : Addr → Prop) (F : Buf Z h0 t pre) (hl : pre.length + 9 ≤ 18) (ln : 0 ≤ nm.toInt ∧ nm.toInt < 256) (la : 0 ≤ a.toInt ∧ a.toInt < 256) (lb : 0 ≤ b.toInt ∧ b.toInt < 256) (hk : rel k a b hs) (st : σ t) :
    Road.Con l Z consts_1 n0 false bLbl [] σ #[(.ref t), (.int (Nat.toInt32 pre.length)), (.int (1 : Int32)), (.int nm), (.int k), (.int a), (.int b)] h0 (fun v h2 _ => v = some (.int (Nat.toInt32 (pre ++ labL true nm hs).length)) ∧ Keep h0 h2 [t] ∧ Buf Z h2 t (pre ++ labL true nm hs)) := by
  refine Road.Con.of bLbl_pn hEW #[.val (.ref t), .val (.int (Nat.toInt32 pre.length)), .val (.int (1 : Int32)), .val (.int nm), .val (.int k), .val (.int a), .val (.int b), .unset] (fun m => Road.ent (Road.laid1 rfl (Road.laid1 rfl (Road.laid1 rfl (Road.laid1 rfl (Road.laid1 rfl (Road.laid1 rfl (Road.laid1 rfl Road.laid0))))))) (k := 1) rfl rfl) ?_
  intro D hD
  have KT := Keep.refl h0 [t]
  refine Road.iloadN 0 bLbl_d0 rfl ?_
  refine Road.istore 1 #[.val (.ref t), .val (.int (Nat.toInt32 pre.length)), .val (.int (1 : Int32)), .val (.int nm), .val (.int k), .val (.int a), .val (.int b), .val (.int (Nat.toInt32 pre.length))] bLbl_d1 rfl ?_
  refine Road.iloadN 3 bLbl_d3 rfl ?_
  refine Road.if_ne 4 17 bLbl_d4 rfl (fun hc4 => ?_) (fun q => absurd q (by decide))
  refine Road.aloadN 17 bLbl_d17 rfl ?_
  refine Road.iload 18 bLbl_d18 rfl ?_
  refine Road.iloadN 20 bLbl_d20 rfl ?_
  refine Road.callS (B' := bPutC) 21 (argsL := [(.ref t), (.int (Nat.toInt32 (pre).length)), (.int nm)]) (rest := []) 0 bLbl_d21 (hw _ (List.mem_of_getElem? (i := 260) rfl)) (hw _ (List.mem_of_getElem? (i := 261) rfl)) (hw _ (List.mem_of_getElem? (i := 2) rfl)) (hw _ (List.mem_of_getElem? (i := 262) rfl)) (by decide) (cPutC l Z a0 hw n0 hEW t (pre) nm h0 σ F (by first | omega | (simp only [List.length_append, List.length_cons, List.length_nil]; omega)) ln st) (lenOf bPutC_pd rfl) rfl rfl rfl (by decide) (by decide) (ce' := 0) (sl' := 0) rfl rfl (by decide) (by decide) ?_
  rintro _ h_1 σ_2 m_3 ⟨rfl, K_4, F⟩
  replace KT := KT.trans K_4 (by intro z hz; simp only [List.mem_cons, List.not_mem_nil, or_false] at hz; rcases hz with rfl <;> first | (exact Or.inr (by assumption)) | (simp; done))
  replace st := m_3 _ st
  refine Road.istore 24 #[.val (.ref t), .val (.int (Nat.toInt32 pre.length)), .val (.int (1 : Int32)), .val (.int nm), .val (.int k), .val (.int a), .val (.int b), .val (.int (Nat.toInt32 (pre ++ [nm]).length))] bLbl_d24 rfl ?_
  refine Road.aloadN 26 bLbl_d26 rfl ?_
  refine Road.iload 27 bLbl_d27 rfl ?_
  refine Road.bipush 29 (61 : Int32) bLbl_d29 rfl ?_
  refine Road.callS (B' := bPutC) 31 (argsL := [(.ref t), (.int (Nat.toInt32 (pre ++ [nm]).length)), (.int (61 : Int32))]) (rest := []) 0 bLbl_d31 (hw _ (List.mem_of_getElem? (i := 260) rfl)) (hw _ (List.mem_of_getElem? (i := 261) rfl)) (hw _ (List.mem_of_getElem? (i := 2) rfl)) (hw _ (List.mem_of_getElem? (i := 262) rfl)) (by decide) (cPutC l Z a0 hw n0 hEW t (pre ++ [nm]) 61 h_1 σ_2 F (by first | omega | (simp only [List.length_append, List.length_cons, List.length_nil]; omega)) (by decide) st) (lenOf bPutC_pd rfl) rfl rfl rfl (by decide) (by decide) (ce' := 0) (sl' := 0) rfl rfl (by decide) (by decide) ?_
  rintro _ h_6 σ_7 m_8 ⟨rfl, K_9, F⟩
  replace KT := KT.trans K_9 (by intro z hz; simp only [List.mem_cons, List.not_mem_nil, or_false] at hz; rcases hz with rfl <;> first | (exact Or.inr (by assumption)) | (simp; done))
  replace st := m_8 _ st
  refine Road.istore 34 #[.val (.ref t), .val (.int (Nat.toInt32 pre.length)), .val (.int (1 : Int32)), .val (.int nm), .val (.int k), .val (.int a), .val (.int b), .val (.int (Nat.toInt32 (pre ++ [nm] ++ [61]).length))] bLbl_d34 rfl ?_
  refine Road.aloadN 36 bLbl_d36 rfl ?_
  refine Road.iload 37 bLbl_d37 rfl ?_
  refine Road.bipush 39 (34 : Int32) bLbl_d39 rfl ?_
  refine Road.callS (B' := bPutC) 41 (argsL := [(.ref t), (.int (Nat.toInt32 (pre ++ [nm] ++ [61]).length)), (.int (34 : Int32))]) (rest := []) 0 bLbl_d41 (hw _ (List.mem_of_getElem? (i := 260) rfl)) (hw _ (List.mem_of_getElem? (i := 261) rfl)) (hw _ (List.mem_of_getElem? (i := 2) rfl)) (hw _ (List.mem_of_getElem? (i := 262) rfl)) (by decide) (cPutC l Z a0 hw n0 hEW t (pre ++ [nm] ++ [61]) 34 h_6 σ_7 F (by first | omega | (simp only [List.length_append, List.length_cons, List.length_nil]; omega)) (by decide) st) (lenOf bPutC_pd rfl) rfl rfl rfl (by decide) (by decide) (ce' := 0) (sl' := 0) rfl rfl (by decide) (by decide) ?_
  rintro _ h_11 σ_12 m_13 ⟨rfl, K_14, F⟩
  replace KT := KT.trans K_14 (by intro z hz; simp only [List.mem_cons, List.not_mem_nil, or_false] at hz; rcases hz with rfl <;> first | (exact Or.inr (by assumption)) | (simp; done))
  replace st := m_13 _ st
  refine Road.istore 44 #[.val (.ref t), .val (.int (Nat.toInt32 pre.length)), .val (.int (1 : Int32)), .val (.int nm), .val (.int k), .val (.int a), .val (.int b), .val (.int (Nat.toInt32 (pre ++ [nm] ++ [61] ++ [34]).length))] bLbl_d44 rfl ?_
  rcases hk with ⟨rfl, rfl⟩ | ⟨rfl, rfl⟩ | ⟨rfl, rfl⟩
  · skip
    have hea := escC_len a
    have heb := escC_len b
    refine Road.iload 46 bLbl_d46 rfl ?_
    refine Road.iconst 48 (1 : Int32) bLbl_d48 rfl ?_
    refine Road.icmp_lt 49 62 bLbl_d49 rfl (fun hc49 => ?_) (fun q => absurd q (by decide))
    refine Road.iload 62 bLbl_d62 rfl ?_
    refine Road.iconst 64 (2 : Int32) bLbl_d64 rfl ?_
    refine Road.icmp_lt 65 78 bLbl_d65 rfl (fun hc65 => ?_) (fun q => absurd q (by decide))
    refine Road.aloadN 78 bLbl_d78 rfl ?_
    refine Road.iload 79 bLbl_d79 rfl ?_
    refine Road.bipush 81 (34 : Int32) bLbl_d81 rfl ?_
    refine Road.callS (B' := bPutC) 83 (argsL := [(.ref t), (.int (Nat.toInt32 (pre ++ [nm] ++ [61] ++ [34]).length)), (.int (34 : Int32))]) (rest := []) 0 bLbl_d83 (hw _ (List.mem_of_getElem? (i := 260) rfl)) (hw _ (List.mem_of_getElem? (i := 261) rfl)) (hw _ (List.mem_of_getElem? (i := 2) rfl)) (hw _ (List.mem_of_getElem? (i := 262) rfl)) (by decide) (cPutC l Z a0 hw n0 hEW t (pre ++ [nm] ++ [61] ++ [34]) 34 h_11 σ_12 F (by first | omega | (simp only [List.length_append, List.length_cons, List.length_nil]; omega)) (by decide) st) (lenOf bPutC_pd rfl) rfl rfl rfl (by decide) (by decide) (ce' := 0) (sl' := 0) rfl rfl (by decide) (by decide) ?_
    rintro _ h_16 σ_17 m_18 ⟨rfl, K_19, F⟩
    replace KT := KT.trans K_19 (by intro z hz; simp only [List.mem_cons, List.not_mem_nil, or_false] at hz; rcases hz with rfl <;> first | (exact Or.inr (by assumption)) | (simp; done))
    replace st := m_18 _ st
    refine Road.istore 86 #[.val (.ref t), .val (.int (Nat.toInt32 pre.length)), .val (.int (1 : Int32)), .val (.int nm), .val (.int (0 : Int32)), .val (.int a), .val (.int b), .val (.int (Nat.toInt32 (pre ++ [nm] ++ [61] ++ [34] ++ [34]).length))] bLbl_d86 rfl ?_
    refine Road.iload 88 bLbl_d88 rfl ?_
    have ee : pre ++ [nm] ++ [61] ++ [34] ++ [34] = pre ++ labL true nm [] := by simp [labL, escL]
    rw [ee] at F
    exact Road.iretI 90 bLbl_d90 rfl (by decide) (by decide) (fun σ' m => ⟨by rw [ee], KT, F⟩)
  · skip
    have hea := escC_len a
    have heb := escC_len b
    refine Road.iload 46 bLbl_d46 rfl ?_
    refine Road.iconst 48 (1 : Int32) bLbl_d48 rfl ?_
    refine Road.icmp_lt 49 62 bLbl_d49 rfl (fun q => absurd q (by decide)) (fun hc49 => ?_)
    refine Road.aloadN 52 bLbl_d52 rfl ?_
    refine Road.iload 53 bLbl_d53 rfl ?_
    refine Road.iload 55 bLbl_d55 rfl ?_
    refine Road.callS (B' := bEscC) 57 (argsL := [(.ref t), (.int (Nat.toInt32 (pre ++ [nm] ++ [61] ++ [34]).length)), (.int a)]) (rest := []) 0 bLbl_d57 (hw _ (List.mem_of_getElem? (i := 301) rfl)) (hw _ (List.mem_of_getElem? (i := 302) rfl)) (hw _ (List.mem_of_getElem? (i := 2) rfl)) (hw _ (List.mem_of_getElem? (i := 303) rfl)) (by decide) (cEscC l Z a0 hw n0 hEW t (pre ++ [nm] ++ [61] ++ [34]) a h_11 σ_12 F (by first | omega | (simp only [List.length_append, List.length_cons, List.length_nil]; omega)) la st) (lenOf bEscC_pd rfl) rfl rfl rfl (by decide) (by decide) (ce' := 0) (sl' := 0) rfl rfl (by decide) (by decide) ?_
    rintro _ h_21 σ_22 m_23 ⟨rfl, K_24, F⟩
    replace KT := KT.trans K_24 (by intro z hz; simp only [List.mem_cons, List.not_mem_nil, or_false] at hz; rcases hz with rfl <;> first | (exact Or.inr (by assumption)) | (simp; done))
    replace st := m_23 _ st
    refine Road.istore 60 #[.val (.ref t), .val (.int (Nat.toInt32 pre.length)), .val (.int (1 : Int32)), .val (.int nm), .val (.int (1 : Int32)), .val (.int a), .val (.int b), .val (.int (Nat.toInt32 (pre ++ [nm] ++ [61] ++ [34] ++ escC a).length))] bLbl_d60 rfl ?_
    refine Road.iload 62 bLbl_d62 rfl ?_
    refine Road.iconst 64 (2 : Int32) bLbl_d64 rfl ?_
    refine Road.icmp_lt 65 78 bLbl_d65 rfl (fun hc65 => ?_) (fun q => absurd q (by decide))
    refine Road.aloadN 78 bLbl_d78 rfl ?_
    refine Road.iload 79 bLbl_d79 rfl ?_
    refine Road.bipush 81 (34 : Int32) bLbl_d81 rfl ?_
    refine Road.callS (B' := bPutC) 83 (argsL := [(.ref t), (.int (Nat.toInt32 (pre ++ [nm] ++ [61] ++ [34] ++ escC a).length)), (.int (34 : Int32))]) (rest := []) 0 bLbl_d83 (hw _ (List.mem_of_getElem? (i := 260) rfl)) (hw _ (List.mem_of_getElem? (i := 261) rfl)) (hw _ (List.mem_of_getElem? (i := 2) rfl)) (hw _ (List.mem_of_getElem? (i := 262) rfl)) (by decide) (cPutC l Z a0 hw n0 hEW t (pre ++ [nm] ++ [61] ++ [34] ++ escC a) 34 h_21 σ_22 F (by first | omega | (simp only [List.length_append, List.length_cons, List.length_nil]; omega)) (by decide) st) (lenOf bPutC_pd rfl) rfl rfl rfl (by decide) (by decide) (ce' := 0) (sl' := 0) rfl rfl (by decide) (by decide) ?_
    rintro _ h_26 σ_27 m_28 ⟨rfl, K_29, F⟩
    replace KT := KT.trans K_29 (by intro z hz; simp only [List.mem_cons, List.not_mem_nil, or_false] at hz; rcases hz with rfl <;> first | (exact Or.inr (by assumption)) | (simp; done))
    replace st := m_28 _ st
    refine Road.istore 86 #[.val (.ref t), .val (.int (Nat.toInt32 pre.length)), .val (.int (1 : Int32)), .val (.int nm), .val (.int (1 : Int32)), .val (.int a), .val (.int b), .val (.int (Nat.toInt32 (pre ++ [nm] ++ [61] ++ [34] ++ escC a ++ [34]).length))] bLbl_d86 rfl ?_
    refine Road.iload 88 bLbl_d88 rfl ?_
    have ee : pre ++ [nm] ++ [61] ++ [34] ++ escC a ++ [34] = pre ++ labL true nm [a] := by simp [labL, escL]
    rw [ee] at F
    exact Road.iretI 90 bLbl_d90 rfl (by decide) (by decide) (fun σ' m => ⟨by rw [ee], KT, F⟩)
  · skip
    have hea := escC_len a
    have heb := escC_len b
    refine Road.iload 46 bLbl_d46 rfl ?_
    refine Road.iconst 48 (1 : Int32) bLbl_d48 rfl ?_
    refine Road.icmp_lt 49 62 bLbl_d49 rfl (fun q => absurd q (by decide)) (fun hc49 => ?_)
    refine Road.aloadN 52 bLbl_d52 rfl ?_
    refine Road.iload 53 bLbl_d53 rfl ?_
    refine Road.iload 55 bLbl_d55 rfl ?_
    refine Road.callS (B' := bEscC) 57 (argsL := [(.ref t), (.int (Nat.toInt32 (pre ++ [nm] ++ [61] ++ [34]).length)), (.int a)]) (rest := []) 0 bLbl_d57 (hw _ (List.mem_of_getElem? (i := 301) rfl)) (hw _ (List.mem_of_getElem? (i := 302) rfl)) (hw _ (List.mem_of_getElem? (i := 2) rfl)) (hw _ (List.mem_of_getElem? (i := 303) rfl)) (by decide) (cEscC l Z a0 hw n0 hEW t (pre ++ [nm] ++ [61] ++ [34]) a h_11 σ_12 F (by first | omega | (simp only [List.length_append, List.length_cons, List.length_nil]; omega)) la st) (lenOf bEscC_pd rfl) rfl rfl rfl (by decide) (by decide) (ce' := 0) (sl' := 0) rfl rfl (by decide) (by decide) ?_
    rintro _ h_31 σ_32 m_33 ⟨rfl, K_34, F⟩
    replace KT := KT.trans K_34 (by intro z hz; simp only [List.mem_cons, List.not_mem_nil, or_false] at hz; rcases hz with rfl <;> first | (exact Or.inr (by assumption)) | (simp; done))
    replace st := m_33 _ st
    refine Road.istore 60 #[.val (.ref t), .val (.int (Nat.toInt32 pre.length)), .val (.int (1 : Int32)), .val (.int nm), .val (.int (2 : Int32)), .val (.int a), .val (.int b), .val (.int (Nat.toInt32 (pre ++ [nm] ++ [61] ++ [34] ++ escC a).length))] bLbl_d60 rfl ?_
    refine Road.iload 62 bLbl_d62 rfl ?_
    refine Road.iconst 64 (2 : Int32) bLbl_d64 rfl ?_
    refine Road.icmp_lt 65 78 bLbl_d65 rfl (fun q => absurd q (by decide)) (fun hc65 => ?_)
    refine Road.aloadN 68 bLbl_d68 rfl ?_
    refine Road.iload 69 bLbl_d69 rfl ?_
    refine Road.iload 71 bLbl_d71 rfl ?_
    refine Road.callS (B' := bEscC) 73 (argsL := [(.ref t), (.int (Nat.toInt32 (pre ++ [nm] ++ [61] ++ [34] ++ escC a).length)), (.int b)]) (rest := []) 0 bLbl_d73 (hw _ (List.mem_of_getElem? (i := 301) rfl)) (hw _ (List.mem_of_getElem? (i := 302) rfl)) (hw _ (List.mem_of_getElem? (i := 2) rfl)) (hw _ (List.mem_of_getElem? (i := 303) rfl)) (by decide) (cEscC l Z a0 hw n0 hEW t (pre ++ [nm] ++ [61] ++ [34] ++ escC a) b h_31 σ_32 F (by first | omega | (simp only [List.length_append, List.length_cons, List.length_nil]; omega)) lb st) (lenOf bEscC_pd rfl) rfl rfl rfl (by decide) (by decide) (ce' := 0) (sl' := 0) rfl rfl (by decide) (by decide) ?_
    rintro _ h_36 σ_37 m_38 ⟨rfl, K_39, F⟩
    replace KT := KT.trans K_39 (by intro z hz; simp only [List.mem_cons, List.not_mem_nil, or_false] at hz; rcases hz with rfl <;> first | (exact Or.inr (by assumption)) | (simp; done))
    replace st := m_38 _ st
    refine Road.istore 76 #[.val (.ref t), .val (.int (Nat.toInt32 pre.length)), .val (.int (1 : Int32)), .val (.int nm), .val (.int (2 : Int32)), .val (.int a), .val (.int b), .val (.int (Nat.toInt32 (pre ++ [nm] ++ [61] ++ [34] ++ escC a ++ escC b).length))] bLbl_d76 rfl ?_
    refine Road.aloadN 78 bLbl_d78 rfl ?_
    refine Road.iload 79 bLbl_d79 rfl ?_
    refine Road.bipush 81 (34 : Int32) bLbl_d81 rfl ?_
    refine Road.callS (B' := bPutC) 83 (argsL := [(.ref t), (.int (Nat.toInt32 (pre ++ [nm] ++ [61] ++ [34] ++ escC a ++ escC b).length)), (.int (34 : Int32))]) (rest := []) 0 bLbl_d83 (hw _ (List.mem_of_getElem? (i := 260) rfl)) (hw _ (List.mem_of_getElem? (i := 261) rfl)) (hw _ (List.mem_of_getElem? (i := 2) rfl)) (hw _ (List.mem_of_getElem? (i := 262) rfl)) (by decide) (cPutC l Z a0 hw n0 hEW t (pre ++ [nm] ++ [61] ++ [34] ++ escC a ++ escC b) 34 h_36 σ_37 F (by first | omega | (simp only [List.length_append, List.length_cons, List.length_nil]; omega)) (by decide) st) (lenOf bPutC_pd rfl) rfl rfl rfl (by decide) (by decide) (ce' := 0) (sl' := 0) rfl rfl (by decide) (by decide) ?_
    rintro _ h_41 σ_42 m_43 ⟨rfl, K_44, F⟩
    replace KT := KT.trans K_44 (by intro z hz; simp only [List.mem_cons, List.not_mem_nil, or_false] at hz; rcases hz with rfl <;> first | (exact Or.inr (by assumption)) | (simp; done))
    replace st := m_43 _ st
    refine Road.istore 86 #[.val (.ref t), .val (.int (Nat.toInt32 pre.length)), .val (.int (1 : Int32)), .val (.int nm), .val (.int (2 : Int32)), .val (.int a), .val (.int b), .val (.int (Nat.toInt32 (pre ++ [nm] ++ [61] ++ [34] ++ escC a ++ escC b ++ [34]).length))] bLbl_d86 rfl ?_
    refine Road.iload 88 bLbl_d88 rfl ?_
    have ee : pre ++ [nm] ++ [61] ++ [34] ++ escC a ++ escC b ++ [34] = pre ++ labL true nm [a, b] := by simp [labL, escL]
    rw [ee] at F
    exact Road.iretI 90 bLbl_d90 rfl (by decide) (by decide) (fun σ' m => ⟨by rw [ee], KT, F⟩)
theorem cLbl0 (l : Launch) (Z : State) (a0 : Array Value) (hw : ∀ d ∈ tables_1, d.before a0 Z = true) (n0 : Nat) (hEW : EW Z a0 consts_1) (t : Addr) (pre : List Int32) (nm k a b : Int32) (hs : List Int32) (h0 : Heap) (σ : Addr → Prop) (F : Buf Z h0 t pre) (hl : pre.length + 9 ≤ 18) (ln : 0 ≤ nm.toInt ∧ nm.toInt < 256) (la : 0 ≤ a.toInt ∧ a.toInt < 256) (lb : 0 ≤ b.toInt ∧ b.toInt < 256) (hk : rel k a b hs) (st : σ t) :
    Road.Con l Z consts_1 n0 false bLbl [] σ #[(.ref t), (.int (Nat.toInt32 pre.length)), (.int (0 : Int32)), (.int nm), (.int k), (.int a), (.int b)] h0 (fun v h2 _ => v = some (.int (Nat.toInt32 (pre ++ labL false nm hs).length)) ∧ Keep h0 h2 [t] ∧ Buf Z h2 t (pre ++ labL false nm hs)) := by
  refine Road.Con.of bLbl_pn hEW #[.val (.ref t), .val (.int (Nat.toInt32 pre.length)), .val (.int (0 : Int32)), .val (.int nm), .val (.int k), .val (.int a), .val (.int b), .unset] (fun m => Road.ent (Road.laid1 rfl (Road.laid1 rfl (Road.laid1 rfl (Road.laid1 rfl (Road.laid1 rfl (Road.laid1 rfl (Road.laid1 rfl Road.laid0))))))) (k := 1) rfl rfl) ?_
  intro D hD
  have KT := Keep.refl h0 [t]
  refine Road.iloadN 0 bLbl_d0 rfl ?_
  refine Road.istore 1 #[.val (.ref t), .val (.int (Nat.toInt32 pre.length)), .val (.int (0 : Int32)), .val (.int nm), .val (.int k), .val (.int a), .val (.int b), .val (.int (Nat.toInt32 pre.length))] bLbl_d1 rfl ?_
  refine Road.iloadN 3 bLbl_d3 rfl ?_
  refine Road.if_ne 4 17 bLbl_d4 rfl (fun q => absurd q (by decide)) (fun hc4 => ?_)
  refine Road.aloadN 7 bLbl_d7 rfl ?_
  refine Road.iload 8 bLbl_d8 rfl ?_
  refine Road.bipush 10 (44 : Int32) bLbl_d10 rfl ?_
  refine Road.callS (B' := bPutC) 12 (argsL := [(.ref t), (.int (Nat.toInt32 (pre).length)), (.int (44 : Int32))]) (rest := []) 0 bLbl_d12 (hw _ (List.mem_of_getElem? (i := 260) rfl)) (hw _ (List.mem_of_getElem? (i := 261) rfl)) (hw _ (List.mem_of_getElem? (i := 2) rfl)) (hw _ (List.mem_of_getElem? (i := 262) rfl)) (by decide) (cPutC l Z a0 hw n0 hEW t (pre) 44 h0 σ F (by first | omega | (simp only [List.length_append, List.length_cons, List.length_nil]; omega)) (by decide) st) (lenOf bPutC_pd rfl) rfl rfl rfl (by decide) (by decide) (ce' := 0) (sl' := 0) rfl rfl (by decide) (by decide) ?_
  rintro _ h_1 σ_2 m_3 ⟨rfl, K_4, F⟩
  replace KT := KT.trans K_4 (by intro z hz; simp only [List.mem_cons, List.not_mem_nil, or_false] at hz; rcases hz with rfl <;> first | (exact Or.inr (by assumption)) | (simp; done))
  replace st := m_3 _ st
  refine Road.istore 15 #[.val (.ref t), .val (.int (Nat.toInt32 pre.length)), .val (.int (0 : Int32)), .val (.int nm), .val (.int k), .val (.int a), .val (.int b), .val (.int (Nat.toInt32 (pre ++ [44]).length))] bLbl_d15 rfl ?_
  refine Road.aloadN 17 bLbl_d17 rfl ?_
  refine Road.iload 18 bLbl_d18 rfl ?_
  refine Road.iloadN 20 bLbl_d20 rfl ?_
  refine Road.callS (B' := bPutC) 21 (argsL := [(.ref t), (.int (Nat.toInt32 (pre ++ [44]).length)), (.int nm)]) (rest := []) 0 bLbl_d21 (hw _ (List.mem_of_getElem? (i := 260) rfl)) (hw _ (List.mem_of_getElem? (i := 261) rfl)) (hw _ (List.mem_of_getElem? (i := 2) rfl)) (hw _ (List.mem_of_getElem? (i := 262) rfl)) (by decide) (cPutC l Z a0 hw n0 hEW t (pre ++ [44]) nm h_1 σ_2 F (by first | omega | (simp only [List.length_append, List.length_cons, List.length_nil]; omega)) ln st) (lenOf bPutC_pd rfl) rfl rfl rfl (by decide) (by decide) (ce' := 0) (sl' := 0) rfl rfl (by decide) (by decide) ?_
  rintro _ h_6 σ_7 m_8 ⟨rfl, K_9, F⟩
  replace KT := KT.trans K_9 (by intro z hz; simp only [List.mem_cons, List.not_mem_nil, or_false] at hz; rcases hz with rfl <;> first | (exact Or.inr (by assumption)) | (simp; done))
  replace st := m_8 _ st
  refine Road.istore 24 #[.val (.ref t), .val (.int (Nat.toInt32 pre.length)), .val (.int (0 : Int32)), .val (.int nm), .val (.int k), .val (.int a), .val (.int b), .val (.int (Nat.toInt32 (pre ++ [44] ++ [nm]).length))] bLbl_d24 rfl ?_
  refine Road.aloadN 26 bLbl_d26 rfl ?_
  refine Road.iload 27 bLbl_d27 rfl ?_
  refine Road.bipush 29 (61 : Int32) bLbl_d29 rfl ?_
  refine Road.callS (B' := bPutC) 31 (argsL := [(.ref t), (.int (Nat.toInt32 (pre ++ [44] ++ [nm]).length)), (.int (61 : Int32))]) (rest := []) 0 bLbl_d31 (hw _ (List.mem_of_getElem? (i := 260) rfl)) (hw _ (List.mem_of_getElem? (i := 261) rfl)) (hw _ (List.mem_of_getElem? (i := 2) rfl)) (hw _ (List.mem_of_getElem? (i := 262) rfl)) (by decide) (cPutC l Z a0 hw n0 hEW t (pre ++ [44] ++ [nm]) 61 h_6 σ_7 F (by first | omega | (simp only [List.length_append, List.length_cons, List.length_nil]; omega)) (by decide) st) (lenOf bPutC_pd rfl) rfl rfl rfl (by decide) (by decide) (ce' := 0) (sl' := 0) rfl rfl (by decide) (by decide) ?_
  rintro _ h_11 σ_12 m_13 ⟨rfl, K_14, F⟩
  replace KT := KT.trans K_14 (by intro z hz; simp only [List.mem_cons, List.not_mem_nil, or_false] at hz; rcases hz with rfl <;> first | (exact Or.inr (by assumption)) | (simp; done))
  replace st := m_13 _ st
  refine Road.istore 34 #[.val (.ref t), .val (.int (Nat.toInt32 pre.length)), .val (.int (0 : Int32)), .val (.int nm), .val (.int k), .val (.int a), .val (.int b), .val (.int (Nat.toInt32 (pre ++ [44] ++ [nm] ++ [61]).length))] bLbl_d34 rfl ?_
  refine Road.aloadN 36 bLbl_d36 rfl ?_
  refine Road.iload 37 bLbl_d37 rfl ?_
  refine Road.bipush 39 (34 : Int32) bLbl_d39 rfl ?_
  refine Road.callS (B' := bPutC) 41 (argsL := [(.ref t), (.int (Nat.toInt32 (pre ++ [44] ++ [nm] ++ [61]).length)), (.int (34 : Int32))]) (rest := []) 0 bLbl_d41 (hw _ (List.mem_of_getElem? (i := 260) rfl)) (hw _ (List.mem_of_getElem? (i := 261) rfl)) (hw _ (List.mem_of_getElem? (i := 2) rfl)) (hw _ (List.mem_of_getElem? (i := 262) rfl)) (by decide) (cPutC l Z a0 hw n0 hEW t (pre ++ [44] ++ [nm] ++ [61]) 34 h_11 σ_12 F (by first | omega | (simp only [List.length_append, List.length_cons, List.length_nil]; omega)) (by decide) st) (lenOf bPutC_pd rfl) rfl rfl rfl (by decide) (by decide) (ce' := 0) (sl' := 0) rfl rfl (by decide) (by decide) ?_
  rintro _ h_16 σ_17 m_18 ⟨rfl, K_19, F⟩
  replace KT := KT.trans K_19 (by intro z hz; simp only [List.mem_cons, List.not_mem_nil, or_false] at hz; rcases hz with rfl <;> first | (exact Or.inr (by assumption)) | (simp; done))
  replace st := m_18 _ st
  refine Road.istore 44 #[.val (.ref t), .val (.int (Nat.toInt32 pre.length)), .val (.int (0 : Int32)), .val (.int nm), .val (.int k), .val (.int a), .val (.int b), .val (.int (Nat.toInt32 (pre ++ [44] ++ [nm] ++ [61] ++ [34]).length))] bLbl_d44 rfl ?_
  rcases hk with ⟨rfl, rfl⟩ | ⟨rfl, rfl⟩ | ⟨rfl, rfl⟩
  · skip
    have hea := escC_len a
    have heb := escC_len b
    refine Road.iload 46 bLbl_d46 rfl ?_
    refine Road.iconst 48 (1 : Int32) bLbl_d48 rfl ?_
    refine Road.icmp_lt 49 62 bLbl_d49 rfl (fun hc49 => ?_) (fun q => absurd q (by decide))
    refine Road.iload 62 bLbl_d62 rfl ?_
    refine Road.iconst 64 (2 : Int32) bLbl_d64 rfl ?_
    refine Road.icmp_lt 65 78 bLbl_d65 rfl (fun hc65 => ?_) (fun q => absurd q (by decide))
    refine Road.aloadN 78 bLbl_d78 rfl ?_
    refine Road.iload 79 bLbl_d79 rfl ?_
    refine Road.bipush 81 (34 : Int32) bLbl_d81 rfl ?_
    refine Road.callS (B' := bPutC) 83 (argsL := [(.ref t), (.int (Nat.toInt32 (pre ++ [44] ++ [nm] ++ [61] ++ [34]).length)), (.int (34 : Int32))]) (rest := []) 0 bLbl_d83 (hw _ (List.mem_of_getElem? (i := 260) rfl)) (hw _ (List.mem_of_getElem? (i := 261) rfl)) (hw _ (List.mem_of_getElem? (i := 2) rfl)) (hw _ (List.mem_of_getElem? (i := 262) rfl)) (by decide) (cPutC l Z a0 hw n0 hEW t (pre ++ [44] ++ [nm] ++ [61] ++ [34]) 34 h_16 σ_17 F (by first | omega | (simp only [List.length_append, List.length_cons, List.length_nil]; omega)) (by decide) st) (lenOf bPutC_pd rfl) rfl rfl rfl (by decide) (by decide) (ce' := 0) (sl' := 0) rfl rfl (by decide) (by decide) ?_
    rintro _ h_21 σ_22 m_23 ⟨rfl, K_24, F⟩
    replace KT := KT.trans K_24 (by intro z hz; simp only [List.mem_cons, List.not_mem_nil, or_false] at hz; rcases hz with rfl <;> first | (exact Or.inr (by assumption)) | (simp; done))
    replace st := m_23 _ st
    refine Road.istore 86 #[.val (.ref t), .val (.int (Nat.toInt32 pre.length)), .val (.int (0 : Int32)), .val (.int nm), .val (.int (0 : Int32)), .val (.int a), .val (.int b), .val (.int (Nat.toInt32 (pre ++ [44] ++ [nm] ++ [61] ++ [34] ++ [34]).length))] bLbl_d86 rfl ?_
    refine Road.iload 88 bLbl_d88 rfl ?_
    have ee : pre ++ [44] ++ [nm] ++ [61] ++ [34] ++ [34] = pre ++ labL false nm [] := by simp [labL, escL]
    rw [ee] at F
    exact Road.iretI 90 bLbl_d90 rfl (by decide) (by decide) (fun σ' m => ⟨by rw [ee], KT, F⟩)
  · skip
    have hea := escC_len a
    have heb := escC_len b
    refine Road.iload 46 bLbl_d46 rfl ?_
    refine Road.iconst 48 (1 : Int32) bLbl_d48 rfl ?_
    refine Road.icmp_lt 49 62 bLbl_d49 rfl (fun q => absurd q (by decide)) (fun hc49 => ?_)
    refine Road.aloadN 52 bLbl_d52 rfl ?_
    refine Road.iload 53 bLbl_d53 rfl ?_
    refine Road.iload 55 bLbl_d55 rfl ?_
    refine Road.callS (B' := bEscC) 57 (argsL := [(.ref t), (.int (Nat.toInt32 (pre ++ [44] ++ [nm] ++ [61] ++ [34]).length)), (.int a)]) (rest := []) 0 bLbl_d57 (hw _ (List.mem_of_getElem? (i := 301) rfl)) (hw _ (List.mem_of_getElem? (i := 302) rfl)) (hw _ (List.mem_of_getElem? (i := 2) rfl)) (hw _ (List.mem_of_getElem? (i := 303) rfl)) (by decide) (cEscC l Z a0 hw n0 hEW t (pre ++ [44] ++ [nm] ++ [61] ++ [34]) a h_16 σ_17 F (by first | omega | (simp only [List.length_append, List.length_cons, List.length_nil]; omega)) la st) (lenOf bEscC_pd rfl) rfl rfl rfl (by decide) (by decide) (ce' := 0) (sl' := 0) rfl rfl (by decide) (by decide) ?_
    rintro _ h_26 σ_27 m_28 ⟨rfl, K_29, F⟩
    replace KT := KT.trans K_29 (by intro z hz; simp only [List.mem_cons, List.not_mem_nil, or_false] at hz; rcases hz with rfl <;> first | (exact Or.inr (by assumption)) | (simp; done))
    replace st := m_28 _ st
    refine Road.istore 60 #[.val (.ref t), .val (.int (Nat.toInt32 pre.length)), .val (.int (0 : Int32)), .val (.int nm), .val (.int (1 : Int32)), .val (.int a), .val (.int b), .val (.int (Nat.toInt32 (pre ++ [44] ++ [nm] ++ [61] ++ [34] ++ escC a).length))] bLbl_d60 rfl ?_
    refine Road.iload 62 bLbl_d62 rfl ?_
    refine Road.iconst 64 (2 : Int32) bLbl_d64 rfl ?_
    refine Road.icmp_lt 65 78 bLbl_d65 rfl (fun hc65 => ?_) (fun q => absurd q (by decide))
    refine Road.aloadN 78 bLbl_d78 rfl ?_
    refine Road.iload 79 bLbl_d79 rfl ?_
    refine Road.bipush 81 (34 : Int32) bLbl_d81 rfl ?_
    refine Road.callS (B' := bPutC) 83 (argsL := [(.ref t), (.int (Nat.toInt32 (pre ++ [44] ++ [nm] ++ [61] ++ [34] ++ escC a).length)), (.int (34 : Int32))]) (rest := []) 0 bLbl_d83 (hw _ (List.mem_of_getElem? (i := 260) rfl)) (hw _ (List.mem_of_getElem? (i := 261) rfl)) (hw _ (List.mem_of_getElem? (i := 2) rfl)) (hw _ (List.mem_of_getElem? (i := 262) rfl)) (by decide) (cPutC l Z a0 hw n0 hEW t (pre ++ [44] ++ [nm] ++ [61] ++ [34] ++ escC a) 34 h_26 σ_27 F (by first | omega | (simp only [List.length_append, List.length_cons, List.length_nil]; omega)) (by decide) st) (lenOf bPutC_pd rfl) rfl rfl rfl (by decide) (by decide) (ce' := 0) (sl' := 0) rfl rfl (by decide) (by decide) ?_
    rintro _ h_31 σ_32 m_33 ⟨rfl, K_34, F⟩
    replace KT := KT.trans K_34 (by intro z hz; simp only [List.mem_cons, List.not_mem_nil, or_false] at hz; rcases hz with rfl <;> first | (exact Or.inr (by assumption)) | (simp; done))
    replace st := m_33 _ st
    refine Road.istore 86 #[.val (.ref t), .val (.int (Nat.toInt32 pre.length)), .val (.int (0 : Int32)), .val (.int nm), .val (.int (1 : Int32)), .val (.int a), .val (.int b), .val (.int (Nat.toInt32 (pre ++ [44] ++ [nm] ++ [61] ++ [34] ++ escC a ++ [34]).length))] bLbl_d86 rfl ?_
    refine Road.iload 88 bLbl_d88 rfl ?_
    have ee : pre ++ [44] ++ [nm] ++ [61] ++ [34] ++ escC a ++ [34] = pre ++ labL false nm [a] := by simp [labL, escL]
    rw [ee] at F
    exact Road.iretI 90 bLbl_d90 rfl (by decide) (by decide) (fun σ' m => ⟨by rw [ee], KT, F⟩)
  · skip
    have hea := escC_len a
    have heb := escC_len b
    refine Road.iload 46 bLbl_d46 rfl ?_
    refine Road.iconst 48 (1 : Int32) bLbl_d48 rfl ?_
    refine Road.icmp_lt 49 62 bLbl_d49 rfl (fun q => absurd q (by decide)) (fun hc49 => ?_)
    refine Road.aloadN 52 bLbl_d52 rfl ?_
    refine Road.iload 53 bLbl_d53 rfl ?_
    refine Road.iload 55 bLbl_d55 rfl ?_
    refine Road.callS (B' := bEscC) 57 (argsL := [(.ref t), (.int (Nat.toInt32 (pre ++ [44] ++ [nm] ++ [61] ++ [34]).length)), (.int a)]) (rest := []) 0 bLbl_d57 (hw _ (List.mem_of_getElem? (i := 301) rfl)) (hw _ (List.mem_of_getElem? (i := 302) rfl)) (hw _ (List.mem_of_getElem? (i := 2) rfl)) (hw _ (List.mem_of_getElem? (i := 303) rfl)) (by decide) (cEscC l Z a0 hw n0 hEW t (pre ++ [44] ++ [nm] ++ [61] ++ [34]) a h_16 σ_17 F (by first | omega | (simp only [List.length_append, List.length_cons, List.length_nil]; omega)) la st) (lenOf bEscC_pd rfl) rfl rfl rfl (by decide) (by decide) (ce' := 0) (sl' := 0) rfl rfl (by decide) (by decide) ?_
    rintro _ h_36 σ_37 m_38 ⟨rfl, K_39, F⟩
    replace KT := KT.trans K_39 (by intro z hz; simp only [List.mem_cons, List.not_mem_nil, or_false] at hz; rcases hz with rfl <;> first | (exact Or.inr (by assumption)) | (simp; done))
    replace st := m_38 _ st
    refine Road.istore 60 #[.val (.ref t), .val (.int (Nat.toInt32 pre.length)), .val (.int (0 : Int32)), .val (.int nm), .val (.int (2 : Int32)), .val (.int a), .val (.int b), .val (.int (Nat.toInt32 (pre ++ [44] ++ [nm] ++ [61] ++ [34] ++ escC a).length))] bLbl_d60 rfl ?_
    refine Road.iload 62 bLbl_d62 rfl ?_
    refine Road.iconst 64 (2 : Int32) bLbl_d64 rfl ?_
    refine Road.icmp_lt 65 78 bLbl_d65 rfl (fun q => absurd q (by decide)) (fun hc65 => ?_)
    refine Road.aloadN 68 bLbl_d68 rfl ?_
    refine Road.iload 69 bLbl_d69 rfl ?_
    refine Road.iload 71 bLbl_d71 rfl ?_
    refine Road.callS (B' := bEscC) 73 (argsL := [(.ref t), (.int (Nat.toInt32 (pre ++ [44] ++ [nm] ++ [61] ++ [34] ++ escC a).length)), (.int b)]) (rest := []) 0 bLbl_d73 (hw _ (List.mem_of_getElem? (i := 301) rfl)) (hw _ (List.mem_of_getElem? (i := 302) rfl)) (hw _ (List.mem_of_getElem? (i := 2) rfl)) (hw _ (List.mem_of_getElem? (i := 303) rfl)) (by decide) (cEscC l Z a0 hw n0 hEW t (pre ++ [44] ++ [nm] ++ [61] ++ [34] ++ escC a) b h_36 σ_37 F (by first | omega | (simp only [List.length_append, List.length_cons, List.length_nil]; omega)) lb st) (lenOf bEscC_pd rfl) rfl rfl rfl (by decide) (by decide) (ce' := 0) (sl' := 0) rfl rfl (by decide) (by decide) ?_
    rintro _ h_41 σ_42 m_43 ⟨rfl, K_44, F⟩
    replace KT := KT.trans K_44 (by intro z hz; simp only [List.mem_cons, List.not_mem_nil, or_false] at hz; rcases hz with rfl <;> first | (exact Or.inr (by assumption)) | (simp; done))
    replace st := m_43 _ st
    refine Road.istore 76 #[.val (.ref t), .val (.int (Nat.toInt32 pre.length)), .val (.int (0 : Int32)), .val (.int nm), .val (.int (2 : Int32)), .val (.int a), .val (.int b), .val (.int (Nat.toInt32 (pre ++ [44] ++ [nm] ++ [61] ++ [34] ++ escC a ++ escC b).length))] bLbl_d76 rfl ?_
    refine Road.aloadN 78 bLbl_d78 rfl ?_
    refine Road.iload 79 bLbl_d79 rfl ?_
    refine Road.bipush 81 (34 : Int32) bLbl_d81 rfl ?_
    refine Road.callS (B' := bPutC) 83 (argsL := [(.ref t), (.int (Nat.toInt32 (pre ++ [44] ++ [nm] ++ [61] ++ [34] ++ escC a ++ escC b).length)), (.int (34 : Int32))]) (rest := []) 0 bLbl_d83 (hw _ (List.mem_of_getElem? (i := 260) rfl)) (hw _ (List.mem_of_getElem? (i := 261) rfl)) (hw _ (List.mem_of_getElem? (i := 2) rfl)) (hw _ (List.mem_of_getElem? (i := 262) rfl)) (by decide) (cPutC l Z a0 hw n0 hEW t (pre ++ [44] ++ [nm] ++ [61] ++ [34] ++ escC a ++ escC b) 34 h_41 σ_42 F (by first | omega | (simp only [List.length_append, List.length_cons, List.length_nil]; omega)) (by decide) st) (lenOf bPutC_pd rfl) rfl rfl rfl (by decide) (by decide) (ce' := 0) (sl' := 0) rfl rfl (by decide) (by decide) ?_
    rintro _ h_46 σ_47 m_48 ⟨rfl, K_49, F⟩
    replace KT := KT.trans K_49 (by intro z hz; simp only [List.mem_cons, List.not_mem_nil, or_false] at hz; rcases hz with rfl <;> first | (exact Or.inr (by assumption)) | (simp; done))
    replace st := m_48 _ st
    refine Road.istore 86 #[.val (.ref t), .val (.int (Nat.toInt32 pre.length)), .val (.int (0 : Int32)), .val (.int nm), .val (.int (2 : Int32)), .val (.int a), .val (.int b), .val (.int (Nat.toInt32 (pre ++ [44] ++ [nm] ++ [61] ++ [34] ++ escC a ++ escC b ++ [34]).length))] bLbl_d86 rfl ?_
    refine Road.iload 88 bLbl_d88 rfl ?_
    have ee : pre ++ [44] ++ [nm] ++ [61] ++ [34] ++ escC a ++ escC b ++ [34] = pre ++ labL false nm [a, b] := by simp [labL, escL]
    rw [ee] at F
    exact Road.iretI 90 bLbl_d90 rfl (by decide) (by decide) (fun σ' m => ⟨by rw [ee], KT, F⟩)
def bLab0 : Road.Bdy := (⟨"com/example/meerkat/meerkat/metrics/Exposition", "labels", "(Ljava/util/List;Ljava/util/List;)Ljava/lang/String;"⟩, prog_10_method_5_code, 4, (some (.object "java/lang/String")), { frames := 6, cells := 4, slots := 41, locals := 95 })
theorem bLab0_d0 : decode bLab0.bs 0 = .ok (.new 7, 3) := by decide +kernel
theorem bLab0_d3 : decode bLab0.bs 3 = .ok (.dup, 1) := by decide +kernel
theorem bLab0_d4 : decode bLab0.bs 4 = .ok (.invokespecial 9, 3) := by decide +kernel
theorem bLab0_d7 : decode bLab0.bs 7 = .ok (.astore_n 2, 1) := by decide +kernel
theorem bLab0_d8 : decode bLab0.bs 8 = .ok (.iconst 0, 1) := by decide +kernel
theorem bLab0_d9 : decode bLab0.bs 9 = .ok (.istore_n 3, 1) := by decide +kernel
theorem bLab0_d10 : decode bLab0.bs 10 = .ok (.iload_n 3, 1) := by decide +kernel
theorem bLab0_d11 : decode bLab0.bs 11 = .ok (.aload_n 0, 1) := by decide +kernel
theorem bLab0_d12 : decode bLab0.bs 12 = .ok (.invokeinterface 41 1, 5) := by decide +kernel
theorem bLab0_d17 : decode bLab0.bs 17 = .ok (.if_icmp .ge 65, 3) := by decide +kernel
theorem bLab0_d20 : decode bLab0.bs 20 = .ok (.aload_n 2, 1) := by decide +kernel
theorem bLab0_d21 : decode bLab0.bs 21 = .ok (.iload_n 3, 1) := by decide +kernel
theorem bLab0_d22 : decode bLab0.bs 22 = .ok (.ifCond .ne 8, 3) := by decide +kernel
theorem bLab0_d25 : decode bLab0.bs 25 = .ok (.ldc 47, 2) := by decide +kernel
theorem bLab0_d27 : decode bLab0.bs 27 = .ok (.goto 5, 3) := by decide +kernel
theorem bLab0_d30 : decode bLab0.bs 30 = .ok (.ldc 49, 2) := by decide +kernel
theorem bLab0_d32 : decode bLab0.bs 32 = .ok (.invokevirtual 18, 3) := by decide +kernel
theorem bLab0_d35 : decode bLab0.bs 35 = .ok (.aload_n 0, 1) := by decide +kernel
theorem bLab0_d36 : decode bLab0.bs 36 = .ok (.iload_n 3, 1) := by decide +kernel
theorem bLab0_d37 : decode bLab0.bs 37 = .ok (.invokeinterface 51 2, 5) := by decide +kernel
theorem bLab0_d42 : decode bLab0.bs 42 = .ok (.checkcast 32, 3) := by decide +kernel
theorem bLab0_d45 : decode bLab0.bs 45 = .ok (.invokevirtual 18, 3) := by decide +kernel
theorem bLab0_d48 : decode bLab0.bs 48 = .ok (.ldc 55, 2) := by decide +kernel
theorem bLab0_d50 : decode bLab0.bs 50 = .ok (.invokevirtual 18, 3) := by decide +kernel
theorem bLab0_d53 : decode bLab0.bs 53 = .ok (.pop, 1) := by decide +kernel
theorem bLab0_d54 : decode bLab0.bs 54 = .ok (.aload_n 1, 1) := by decide +kernel
theorem bLab0_d55 : decode bLab0.bs 55 = .ok (.iload_n 3, 1) := by decide +kernel
theorem bLab0_d56 : decode bLab0.bs 56 = .ok (.invokeinterface 51 2, 5) := by decide +kernel
theorem bLab0_d61 : decode bLab0.bs 61 = .ok (.checkcast 32, 3) := by decide +kernel
theorem bLab0_d64 : decode bLab0.bs 64 = .ok (.iconst 1, 1) := by decide +kernel
theorem bLab0_d65 : decode bLab0.bs 65 = .ok (.aload_n 2, 1) := by decide +kernel
theorem bLab0_d66 : decode bLab0.bs 66 = .ok (.invokestatic 25, 3) := by decide +kernel
theorem bLab0_d69 : decode bLab0.bs 69 = .ok (.aload_n 2, 1) := by decide +kernel
theorem bLab0_d70 : decode bLab0.bs 70 = .ok (.bipush 34, 2) := by decide +kernel
theorem bLab0_d72 : decode bLab0.bs 72 = .ok (.invokevirtual 22, 3) := by decide +kernel
theorem bLab0_d75 : decode bLab0.bs 75 = .ok (.pop, 1) := by decide +kernel
theorem bLab0_d76 : decode bLab0.bs 76 = .ok (.iinc 3 1, 3) := by decide +kernel
theorem bLab0_d79 : decode bLab0.bs 79 = .ok (.goto (-69), 3) := by decide +kernel
theorem bLab0_d82 : decode bLab0.bs 82 = .ok (.aload_n 2, 1) := by decide +kernel
theorem bLab0_d83 : decode bLab0.bs 83 = .ok (.invokevirtual 37, 3) := by decide +kernel
theorem bLab0_d86 : decode bLab0.bs 86 = .ok (.areturn, 1) := by decide +kernel
theorem bLab0_pd : parseMethodDescriptor "(Ljava/util/List;Ljava/util/List;)Ljava/lang/String;" = some ⟨[(.object "java/util/List"), (.object "java/util/List")], (some (.object "java/lang/String"))⟩ := by decide +kernel
theorem bLab0_pn : plainFor bLab0.y = true := plainFor_of_name (show plainName "com/example/meerkat/meerkat/metrics/Exposition" = true from by first | (simp [plainName, overriddenIn]; done) | decide +kernel)
theorem cLab0 (l : Launch) (Z : State) (a0 : Array Value) (hw : ∀ d ∈ tables_1, d.before a0 Z = true) (n0 : Nat) (hEW : EW Z a0 consts_1) (o p : Addr) (h0 : Heap) (σ : Addr → Prop) (uE : Exa Z h0 o "java/util/ArrayList") (us : Fld Z h0 o "java/util/ArrayList" "size" "I" (.int 0)) (vE : Exa Z h0 p "java/util/ArrayList") (vs : Fld Z h0 p "java/util/ArrayList" "size" "I" (.int 0)) (cp : Int32) (Hc : Sta Z Z.heap Road.SN "COMPACT_STRINGS" "Z" (.int cp)) (hcp : ¬ cp = 0) (fm : Value) (hfm : fm.isRef = true) (Hf : Sta Z Z.heap "jdk/internal/util/Preconditions" "SIOOBE_FORMATTER" "Ljava/util/function/BiFunction;" fm) :
    Road.Con l Z consts_1 n0 false bLab0 [] σ #[(.ref o), (.ref p)] h0 (fun v h2 s2 => ∃ r rd, v = some (.ref r) ∧ Keep h0 h2 [] ∧ Road.Str Z h2 r rd ([] : List Int32)) := by
  have wS : ∀ d ∈ Bundle.stringAtoms, d.before a0 Z = true := fun d hd => hw d ((by decide +kernel : ∀ d ∈ Bundle.stringAtoms, d ∈ tables_1) d hd)
  refine Road.Con.of bLab0_pn hEW #[.val (.ref o), .val (.ref p), .unset, .unset] (fun m => Road.ent (Road.laid1 rfl (Road.laid1 rfl Road.laid0)) (k := 2) rfl rfl) ?_
  intro D hD
  have KT := Keep.refl h0 ([] : List Addr)
  refine Road.new 0 "java/lang/StringBuilder" bLab0_d0 (hw _ (List.mem_of_getElem? (i := 34) rfl)) (hw _ (List.mem_of_getElem? (i := 35) rfl)) (hw _ (List.mem_of_getElem? (i := 36) rfl)) (ce' := 1) (sl' := 4) rfl rfl (by decide) (by decide) ?_
  intro q h_1 σ_2 g_3 K_4 lt_5 m_6 s_7 Eq D_8 M_9
  have gk_q := Nat.le_trans KT.1 (Nat.le_of_eq g_3.symm)
  have ne_o_q : o ≠ q := Nat.ne_of_lt (Nat.lt_of_lt_of_le uE.lt (Nat.le_of_eq g_3.symm))
  have ne_p_q : p ≠ q := Nat.ne_of_lt (Nat.lt_of_lt_of_le vE.lt (Nat.le_of_eq g_3.symm))
  replace KT := KT.trans K_4 (by simp)
  replace uE := uE.keep K_4
  replace us := us.keep K_4 nin0
  replace vE := vE.keep K_4
  replace vs := vs.keep K_4 nin0
  have Fc := D_8 (Or.inl (hw _ (List.mem_of_getElem? (i := 53) rfl))) (ty := .byte) (by decide)
  have Fv := D_8 (Or.inl (hw _ (List.mem_of_getElem? (i := 51) rfl))) (ty := (.array .byte)) (by decide)
  have Fn := D_8 (Or.inl (hw _ (List.mem_of_getElem? (i := 95) rfl))) (ty := .int) (by decide)
  refine Road.dup 3 bLab0_d3 ?_
  refine Road.callI (B' := bSbI) (a := q) 4 (argsL := []) (rest := [(.ref q)]) 1 bLab0_d4 (hw _ (List.mem_of_getElem? (i := 37) rfl)) (hw _ (List.mem_of_getElem? (i := 38) rfl)) (hw _ (List.mem_of_getElem? (i := 36) rfl)) (hw _ (List.mem_of_getElem? (i := 39) rfl)) rfl rfl (by decide) (cSbI l Z a0 hw n0 hEW q h_1 σ_2 Eq Fc Fv Fn s_7 cp Hc hcp) (lenOf bSbI_pd rfl) rfl rfl rfl (by decide) (by decide) (ce' := 2) (sl' := 20) rfl rfl (by decide) (by decide) ?_
  rintro _ h_10 σ_11 m_12 ⟨rfl, K_13, b, S, gb, sb, EB⟩
  have gk_b := Nat.le_trans KT.1 gb
  have ne_o_b : o ≠ b := Nat.ne_of_lt (Nat.lt_of_lt_of_le uE.lt gb)
  have ne_p_b : p ≠ b := Nat.ne_of_lt (Nat.lt_of_lt_of_le vE.lt gb)
  replace KT := KT.trans K_13 (by intro z hz; simp only [List.mem_cons, List.not_mem_nil, or_false] at hz; rcases hz with rfl <;> first | (exact Or.inr (by assumption)) | (simp; done))
  replace uE := uE.keep K_13
  replace us := us.keep K_13 (ninS ne_o_q nin0)
  replace vE := vE.keep K_13
  replace vs := vs.keep K_13 (ninS ne_p_q nin0)
  replace s_7 := m_12 _ s_7
  refine Road.astoreN 7 #[.val (.ref o), .val (.ref p), .val (.ref q), .unset] bLab0_d7 rfl ?_
  refine Road.iconst 8 (0 : Int32) bLab0_d8 rfl ?_
  refine Road.istoreN 9 #[.val (.ref o), .val (.ref p), .val (.ref q), .val (.int (0 : Int32))] bLab0_d9 rfl ?_
  refine Road.iloadN 10 bLab0_d10 rfl ?_
  refine Road.aloadN 11 bLab0_d11 rfl ?_
  refine Road.callF (B' := bAlS) (a := o) 12 (argsL := []) (rest := [(.int (0 : Int32))]) "java/util/ArrayList" 1 bLab0_d12 (hw _ (List.mem_of_getElem? (i := 54) rfl)) (hw _ (List.mem_of_getElem? (i := 55) rfl)) (hw _ (List.mem_of_getElem? (i := 56) rfl)) (hw _ (List.mem_of_getElem? (i := 57) rfl)) (hw _ (List.mem_of_getElem? (i := 58) rfl)) (hw _ (List.mem_of_getElem? (i := 59) rfl)) (hw _ (List.mem_of_getElem? (i := 60) rfl)) (hw _ (List.mem_of_getElem? (i := 61) rfl)) (hw _ (List.mem_of_getElem? (i := 6) rfl)) (hw _ (List.mem_of_getElem? (i := 62) rfl)) (by decide) (by rfl) uE (cAlS l Z a0 hw n0 hEW o 0 h_10 σ_11 us) (lenOf bAlS_pd rfl) rfl rfl rfl (by decide) (by decide) (ce' := 2) (sl' := 20) rfl rfl (by decide) (by decide) ?_
  rintro _ h_15 σ_16 m_17 ⟨rfl, rfl⟩
  refine Road.Go.weaken (σ' := σ_11) m_17 (Nat.le_refl _) (Nat.le_refl _) ?_
  refine Road.icmp_ge 17 82 bLab0_d17 rfl (fun hc17 => ?_) (fun q => absurd q (by decide))
  refine Road.aloadN 82 bLab0_d82 rfl ?_
  refine Road.callV (B' := bToS) (a := q) 83 (argsL := []) (rest := []) "java/lang/StringBuilder" 0 bLab0_d83 (hw _ (List.mem_of_getElem? (i := 65) rfl)) (hw _ (List.mem_of_getElem? (i := 66) rfl)) (fun vm hz => Road.notFace_sib (args := #[]) (mv (s := D.s.setVm vm) hz (hw _ (List.mem_of_getElem? (i := 68) rfl))) rfl) (hw _ (List.mem_of_getElem? (i := 68) rfl)) (hw _ (List.mem_of_getElem? (i := 67) rfl)) (hw _ (List.mem_of_getElem? (i := 36) rfl)) (hw _ (List.mem_of_getElem? (i := 69) rfl)) (by decide) S.1 (cToS l Z a0 hw n0 hEW q b [] 16 h_10 σ_11 S (by decide) (by decide) cp Hc hcp) (lenOf bToS_pd rfl) rfl rfl rfl (by decide) (by decide) (ce' := 4) (sl' := 41) rfl rfl (by decide) (by decide) ?_
  rintro _ h_19 σ_20 m_21 ⟨r, rd, rfl, gr, grd, K_22, T⟩
  replace KT := KT.trans K_22 (by simp)
  replace s_7 := m_21 _ s_7
  replace sb := m_21 _ sb
  exact Road.aret 86 bLab0_d86 (t := (.object "java/lang/String")) rfl rfl rfl (by decide) (by decide) (fun σ' m => ⟨r, rd, rfl, KT, T⟩)
def bLab1 : Road.Bdy := (⟨"com/example/meerkat/meerkat/metrics/Exposition", "labels", "(Ljava/util/List;Ljava/util/List;)Ljava/lang/String;"⟩, prog_10_method_5_code, 4, (some (.object "java/lang/String")), { frames := 6, cells := 12, slots := 85, locals := 95 })
theorem bLab1_d0 : decode bLab1.bs 0 = .ok (.new 7, 3) := by decide +kernel
theorem bLab1_d3 : decode bLab1.bs 3 = .ok (.dup, 1) := by decide +kernel
theorem bLab1_d4 : decode bLab1.bs 4 = .ok (.invokespecial 9, 3) := by decide +kernel
theorem bLab1_d7 : decode bLab1.bs 7 = .ok (.astore_n 2, 1) := by decide +kernel
theorem bLab1_d8 : decode bLab1.bs 8 = .ok (.iconst 0, 1) := by decide +kernel
theorem bLab1_d9 : decode bLab1.bs 9 = .ok (.istore_n 3, 1) := by decide +kernel
theorem bLab1_d10 : decode bLab1.bs 10 = .ok (.iload_n 3, 1) := by decide +kernel
theorem bLab1_d11 : decode bLab1.bs 11 = .ok (.aload_n 0, 1) := by decide +kernel
theorem bLab1_d12 : decode bLab1.bs 12 = .ok (.invokeinterface 41 1, 5) := by decide +kernel
theorem bLab1_d17 : decode bLab1.bs 17 = .ok (.if_icmp .ge 65, 3) := by decide +kernel
theorem bLab1_d20 : decode bLab1.bs 20 = .ok (.aload_n 2, 1) := by decide +kernel
theorem bLab1_d21 : decode bLab1.bs 21 = .ok (.iload_n 3, 1) := by decide +kernel
theorem bLab1_d22 : decode bLab1.bs 22 = .ok (.ifCond .ne 8, 3) := by decide +kernel
theorem bLab1_d25 : decode bLab1.bs 25 = .ok (.ldc 47, 2) := by decide +kernel
theorem bLab1_d27 : decode bLab1.bs 27 = .ok (.goto 5, 3) := by decide +kernel
theorem bLab1_d30 : decode bLab1.bs 30 = .ok (.ldc 49, 2) := by decide +kernel
theorem bLab1_d32 : decode bLab1.bs 32 = .ok (.invokevirtual 18, 3) := by decide +kernel
theorem bLab1_d35 : decode bLab1.bs 35 = .ok (.aload_n 0, 1) := by decide +kernel
theorem bLab1_d36 : decode bLab1.bs 36 = .ok (.iload_n 3, 1) := by decide +kernel
theorem bLab1_d37 : decode bLab1.bs 37 = .ok (.invokeinterface 51 2, 5) := by decide +kernel
theorem bLab1_d42 : decode bLab1.bs 42 = .ok (.checkcast 32, 3) := by decide +kernel
theorem bLab1_d45 : decode bLab1.bs 45 = .ok (.invokevirtual 18, 3) := by decide +kernel
theorem bLab1_d48 : decode bLab1.bs 48 = .ok (.ldc 55, 2) := by decide +kernel
theorem bLab1_d50 : decode bLab1.bs 50 = .ok (.invokevirtual 18, 3) := by decide +kernel
theorem bLab1_d53 : decode bLab1.bs 53 = .ok (.pop, 1) := by decide +kernel
theorem bLab1_d54 : decode bLab1.bs 54 = .ok (.aload_n 1, 1) := by decide +kernel
theorem bLab1_d55 : decode bLab1.bs 55 = .ok (.iload_n 3, 1) := by decide +kernel
theorem bLab1_d56 : decode bLab1.bs 56 = .ok (.invokeinterface 51 2, 5) := by decide +kernel
theorem bLab1_d61 : decode bLab1.bs 61 = .ok (.checkcast 32, 3) := by decide +kernel
theorem bLab1_d64 : decode bLab1.bs 64 = .ok (.iconst 1, 1) := by decide +kernel
theorem bLab1_d65 : decode bLab1.bs 65 = .ok (.aload_n 2, 1) := by decide +kernel
theorem bLab1_d66 : decode bLab1.bs 66 = .ok (.invokestatic 25, 3) := by decide +kernel
theorem bLab1_d69 : decode bLab1.bs 69 = .ok (.aload_n 2, 1) := by decide +kernel
theorem bLab1_d70 : decode bLab1.bs 70 = .ok (.bipush 34, 2) := by decide +kernel
theorem bLab1_d72 : decode bLab1.bs 72 = .ok (.invokevirtual 22, 3) := by decide +kernel
theorem bLab1_d75 : decode bLab1.bs 75 = .ok (.pop, 1) := by decide +kernel
theorem bLab1_d76 : decode bLab1.bs 76 = .ok (.iinc 3 1, 3) := by decide +kernel
theorem bLab1_d79 : decode bLab1.bs 79 = .ok (.goto (-69), 3) := by decide +kernel
theorem bLab1_d82 : decode bLab1.bs 82 = .ok (.aload_n 2, 1) := by decide +kernel
theorem bLab1_d83 : decode bLab1.bs 83 = .ok (.invokevirtual 37, 3) := by decide +kernel
theorem bLab1_d86 : decode bLab1.bs 86 = .ok (.areturn, 1) := by decide +kernel
theorem bLab1_pd : parseMethodDescriptor "(Ljava/util/List;Ljava/util/List;)Ljava/lang/String;" = some ⟨[(.object "java/util/List"), (.object "java/util/List")], (some (.object "java/lang/String"))⟩ := by decide +kernel
theorem bLab1_pn : plainFor bLab1.y = true := plainFor_of_name (show plainName "com/example/meerkat/meerkat/metrics/Exposition" = true from by first | (simp [plainName, overriddenIn]; done) | decide +kernel)
theorem cLab1 (l : Launch) (Z : State) (a0 : Array Value) (hw : ∀ d ∈ tables_1, d.before a0 Z = true) (n0 : Nat) (hEW : EW Z a0 consts_1) (o p : Addr) (ua va : Addr) (u0 d0 v0 w0 : Addr) (c0 : Int32) (hs0 : List Int32) (h0 : Heap) (σ : Addr → Prop) (uE : Exa Z h0 o "java/util/ArrayList") (us : Fld Z h0 o "java/util/ArrayList" "size" "I" (.int 1)) (ue : Fld Z h0 o "java/util/ArrayList" "elementData" "[Ljava/lang/Object;" (.ref ua)) (uA : Road.Ary Z h0 ua (.object "java/lang/Object") (.ref u0 :: List.replicate 9 .null)) (vE : Exa Z h0 p "java/util/ArrayList") (vs : Fld Z h0 p "java/util/ArrayList" "size" "I" (.int 1)) (ve : Fld Z h0 p "java/util/ArrayList" "elementData" "[Ljava/lang/Object;" (.ref va)) (vA : Road.Ary Z h0 va (.object "java/lang/Object") (.ref v0 :: List.replicate 9 .null)) (T0 : Road.Str Z h0 u0 d0 [c0]) (U0 : Road.Str Z h0 v0 w0 hs0) (hl0 : hs0.length ≤ 2) (cp : Int32) (Hc : Sta Z Z.heap Road.SN "COMPACT_STRINGS" "Z" (.int cp)) (hcp : ¬ cp = 0) (fm : Value) (hfm : fm.isRef = true) (Hf : Sta Z Z.heap "jdk/internal/util/Preconditions" "SIOOBE_FORMATTER" "Ljava/util/function/BiFunction;" fm) :
    Road.Con l Z consts_1 n0 false bLab1 [] σ #[(.ref o), (.ref p)] h0 (fun v h2 s2 => ∃ r rd, v = some (.ref r) ∧ Keep h0 h2 [] ∧ Road.Str Z h2 r rd (labL true c0 hs0)) := by
  have wS : ∀ d ∈ Bundle.stringAtoms, d.before a0 Z = true := fun d hd => hw d ((by decide +kernel : ∀ d ∈ Bundle.stringAtoms, d ∈ tables_1) d hd)
  have hel0 := escL_len hs0
  refine Road.Con.of bLab1_pn hEW #[.val (.ref o), .val (.ref p), .unset, .unset] (fun m => Road.ent (Road.laid1 rfl (Road.laid1 rfl Road.laid0)) (k := 2) rfl rfl) ?_
  intro D hD
  have KT := Keep.refl h0 ([] : List Addr)
  refine Road.new 0 "java/lang/StringBuilder" bLab1_d0 (hw _ (List.mem_of_getElem? (i := 34) rfl)) (hw _ (List.mem_of_getElem? (i := 35) rfl)) (hw _ (List.mem_of_getElem? (i := 36) rfl)) (ce' := 1) (sl' := 4) rfl rfl (by decide) (by decide) ?_
  intro q h_1 σ_2 g_3 K_4 lt_5 m_6 s_7 Eq D_8 M_9
  have gk_q := Nat.le_trans KT.1 (Nat.le_of_eq g_3.symm)
  have ne_o_q : o ≠ q := Nat.ne_of_lt (Nat.lt_of_lt_of_le uE.lt (Nat.le_of_eq g_3.symm))
  have ne_ua_q : ua ≠ q := Nat.ne_of_lt (Nat.lt_of_lt_of_le uA.lt (Nat.le_of_eq g_3.symm))
  have ne_p_q : p ≠ q := Nat.ne_of_lt (Nat.lt_of_lt_of_le vE.lt (Nat.le_of_eq g_3.symm))
  have ne_va_q : va ≠ q := Nat.ne_of_lt (Nat.lt_of_lt_of_le vA.lt (Nat.le_of_eq g_3.symm))
  have ne_u0_q : u0 ≠ q := Nat.ne_of_lt (Nat.lt_of_lt_of_le T0.lt (Nat.le_of_eq g_3.symm))
  have ne_d0_q : d0 ≠ q := Nat.ne_of_lt (Nat.lt_of_lt_of_le T0.ltb (Nat.le_of_eq g_3.symm))
  have ne_v0_q : v0 ≠ q := Nat.ne_of_lt (Nat.lt_of_lt_of_le U0.lt (Nat.le_of_eq g_3.symm))
  have ne_w0_q : w0 ≠ q := Nat.ne_of_lt (Nat.lt_of_lt_of_le U0.ltb (Nat.le_of_eq g_3.symm))
  replace KT := KT.trans K_4 (by simp)
  replace uE := uE.keep K_4
  replace us := us.keep K_4 nin0
  replace ue := ue.keep K_4 nin0
  replace uA := uA.keep K_4 nin0
  replace vE := vE.keep K_4
  replace vs := vs.keep K_4 nin0
  replace ve := ve.keep K_4 nin0
  replace vA := vA.keep K_4 nin0
  replace T0 := T0.keep K_4 nin0 nin0
  replace U0 := U0.keep K_4 nin0 nin0
  have Fc := D_8 (Or.inl (hw _ (List.mem_of_getElem? (i := 53) rfl))) (ty := .byte) (by decide)
  have Fv := D_8 (Or.inl (hw _ (List.mem_of_getElem? (i := 51) rfl))) (ty := (.array .byte)) (by decide)
  have Fn := D_8 (Or.inl (hw _ (List.mem_of_getElem? (i := 95) rfl))) (ty := .int) (by decide)
  refine Road.dup 3 bLab1_d3 ?_
  refine Road.callI (B' := bSbI) (a := q) 4 (argsL := []) (rest := [(.ref q)]) 1 bLab1_d4 (hw _ (List.mem_of_getElem? (i := 37) rfl)) (hw _ (List.mem_of_getElem? (i := 38) rfl)) (hw _ (List.mem_of_getElem? (i := 36) rfl)) (hw _ (List.mem_of_getElem? (i := 39) rfl)) rfl rfl (by decide) (cSbI l Z a0 hw n0 hEW q h_1 σ_2 Eq Fc Fv Fn s_7 cp Hc hcp) (lenOf bSbI_pd rfl) rfl rfl rfl (by decide) (by decide) (ce' := 2) (sl' := 20) rfl rfl (by decide) (by decide) ?_
  rintro _ h_10 σ_11 m_12 ⟨rfl, K_13, b, S, gb, sb, EB⟩
  have gk_b := Nat.le_trans KT.1 gb
  have ne_o_b : o ≠ b := Nat.ne_of_lt (Nat.lt_of_lt_of_le uE.lt gb)
  have ne_ua_b : ua ≠ b := Nat.ne_of_lt (Nat.lt_of_lt_of_le uA.lt gb)
  have ne_p_b : p ≠ b := Nat.ne_of_lt (Nat.lt_of_lt_of_le vE.lt gb)
  have ne_va_b : va ≠ b := Nat.ne_of_lt (Nat.lt_of_lt_of_le vA.lt gb)
  have ne_u0_b : u0 ≠ b := Nat.ne_of_lt (Nat.lt_of_lt_of_le T0.lt gb)
  have ne_d0_b : d0 ≠ b := Nat.ne_of_lt (Nat.lt_of_lt_of_le T0.ltb gb)
  have ne_v0_b : v0 ≠ b := Nat.ne_of_lt (Nat.lt_of_lt_of_le U0.lt gb)
  have ne_w0_b : w0 ≠ b := Nat.ne_of_lt (Nat.lt_of_lt_of_le U0.ltb gb)
  replace KT := KT.trans K_13 (by intro z hz; simp only [List.mem_cons, List.not_mem_nil, or_false] at hz; rcases hz with rfl <;> first | (exact Or.inr (by assumption)) | (simp; done))
  replace uE := uE.keep K_13
  replace us := us.keep K_13 (ninS ne_o_q nin0)
  replace ue := ue.keep K_13 (ninS ne_o_q nin0)
  replace uA := uA.keep K_13 (ninS ne_ua_q nin0)
  replace vE := vE.keep K_13
  replace vs := vs.keep K_13 (ninS ne_p_q nin0)
  replace ve := ve.keep K_13 (ninS ne_p_q nin0)
  replace vA := vA.keep K_13 (ninS ne_va_q nin0)
  replace T0 := T0.keep K_13 (ninS ne_u0_q nin0) (ninS ne_d0_q nin0)
  replace U0 := U0.keep K_13 (ninS ne_v0_q nin0) (ninS ne_w0_q nin0)
  replace s_7 := m_12 _ s_7
  refine Road.astoreN 7 #[.val (.ref o), .val (.ref p), .val (.ref q), .unset] bLab1_d7 rfl ?_
  refine Road.iconst 8 (0 : Int32) bLab1_d8 rfl ?_
  refine Road.istoreN 9 #[.val (.ref o), .val (.ref p), .val (.ref q), .val (.int (0 : Int32))] bLab1_d9 rfl ?_
  refine Road.iloadN 10 bLab1_d10 rfl ?_
  refine Road.aloadN 11 bLab1_d11 rfl ?_
  refine Road.callF (B' := bAlS) (a := o) 12 (argsL := []) (rest := [(.int (0 : Int32))]) "java/util/ArrayList" 1 bLab1_d12 (hw _ (List.mem_of_getElem? (i := 54) rfl)) (hw _ (List.mem_of_getElem? (i := 55) rfl)) (hw _ (List.mem_of_getElem? (i := 56) rfl)) (hw _ (List.mem_of_getElem? (i := 57) rfl)) (hw _ (List.mem_of_getElem? (i := 58) rfl)) (hw _ (List.mem_of_getElem? (i := 59) rfl)) (hw _ (List.mem_of_getElem? (i := 60) rfl)) (hw _ (List.mem_of_getElem? (i := 61) rfl)) (hw _ (List.mem_of_getElem? (i := 6) rfl)) (hw _ (List.mem_of_getElem? (i := 62) rfl)) (by decide) (by rfl) uE (cAlS l Z a0 hw n0 hEW o 1 h_10 σ_11 us) (lenOf bAlS_pd rfl) rfl rfl rfl (by decide) (by decide) (ce' := 2) (sl' := 20) rfl rfl (by decide) (by decide) ?_
  rintro _ h_15 σ_16 m_17 ⟨rfl, rfl⟩
  refine Road.Go.weaken (σ' := σ_11) m_17 (Nat.le_refl _) (Nat.le_refl _) ?_
  refine Road.icmp_ge 17 82 bLab1_d17 rfl (fun q => absurd q (by decide)) (fun hc17 => ?_)
  refine Road.aloadN 20 bLab1_d20 rfl ?_
  refine Road.iloadN 21 bLab1_d21 rfl ?_
  refine Road.if_ne 22 30 bLab1_d22 rfl (fun q => absurd q (by decide)) (fun hc22 => ?_)
  refine Road.ldcS 25 "" [] 0 bLab1_d25 (hw _ (List.mem_of_getElem? (i := 186) rfl)) wS (List.mem_of_getElem? (i := 0) rfl) (by decide) (by decide +kernel) (by decide) (by decide) (by decide) (ce' := 4) (sl' := 24) rfl rfl (by decide) (by decide) ?_
  intro la0 lb0 h_19 σ_20 K_21 m_22 L0 q_23
  replace KT := KT.trans K_21 (by simp)
  replace uE := uE.keep K_21
  replace us := us.keep K_21 nin0
  replace ue := ue.keep K_21 nin0
  replace uA := uA.keep K_21 nin0
  replace vE := vE.keep K_21
  replace vs := vs.keep K_21 nin0
  replace ve := ve.keep K_21 nin0
  replace vA := vA.keep K_21 nin0
  replace T0 := T0.keep K_21 nin0 nin0
  replace U0 := U0.keep K_21 nin0 nin0
  replace S := S.keep K_21 nin0 nin0
  replace EB := EB.keep K_21
  replace s_7 := m_22 _ s_7
  replace sb := m_22 _ sb
  have ne_q_la0 : q ≠ la0 := (q_23 q s_7).1
  have ne_q_lb0 : q ≠ lb0 := (q_23 q s_7).2
  have ne_b_la0 : b ≠ la0 := (q_23 b sb).1
  have ne_b_lb0 : b ≠ lb0 := (q_23 b sb).2
  refine Road.goto 27 32 bLab1_d27 rfl ?_
  refine Road.callV (B' := bSp0) (a := q) 32 (argsL := [(.ref la0)]) (rest := []) "java/lang/StringBuilder" 0 bLab1_d32 (hw _ (List.mem_of_getElem? (i := 187) rfl)) (hw _ (List.mem_of_getElem? (i := 188) rfl)) (fun vm hz => Road.notFace_sib (args := #[]) (mv (s := D.s.setVm vm) hz (hw _ (List.mem_of_getElem? (i := 68) rfl))) rfl) (hw _ (List.mem_of_getElem? (i := 190) rfl)) (hw _ (List.mem_of_getElem? (i := 189) rfl)) (hw _ (List.mem_of_getElem? (i := 36) rfl)) (hw _ (List.mem_of_getElem? (i := 191) rfl)) (by decide) S.1 (cSp0 l Z a0 hw n0 hEW q b [] 16 la0 lb0 [] h_19 σ_20 S L0 (by simp only [List.length_append, List.length_cons, List.length_nil]; omega) sb s_7 cp Hc hcp) (lenOf bSp0_pd rfl) rfl rfl rfl (by decide) (by decide) (ce' := 4) (sl' := 24) rfl rfl (by decide) (by decide) ?_
  rintro _ h_24 σ_25 m_26 ⟨rfl, K_27, S⟩
  replace KT := KT.trans K_27 (by intro z hz; simp only [List.mem_cons, List.not_mem_nil, or_false] at hz; rcases hz with rfl | rfl <;> first | (exact Or.inr (by assumption)) | (simp; done))
  replace uE := uE.keep K_27
  replace us := us.keep K_27 (ninS ne_o_q (ninS ne_o_b nin0))
  replace ue := ue.keep K_27 (ninS ne_o_q (ninS ne_o_b nin0))
  replace uA := uA.keep K_27 (ninS ne_ua_q (ninS ne_ua_b nin0))
  replace vE := vE.keep K_27
  replace vs := vs.keep K_27 (ninS ne_p_q (ninS ne_p_b nin0))
  replace ve := ve.keep K_27 (ninS ne_p_q (ninS ne_p_b nin0))
  replace vA := vA.keep K_27 (ninS ne_va_q (ninS ne_va_b nin0))
  replace T0 := T0.keep K_27 (ninS ne_u0_q (ninS ne_u0_b nin0)) (ninS ne_d0_q (ninS ne_d0_b nin0))
  replace U0 := U0.keep K_27 (ninS ne_v0_q (ninS ne_v0_b nin0)) (ninS ne_w0_q (ninS ne_w0_b nin0))
  replace EB := EB.keep K_27
  replace L0 := L0.keep K_27 (ninS (Ne.symm ne_q_la0) (ninS (Ne.symm ne_b_la0) nin0)) (ninS (Ne.symm ne_q_lb0) (ninS (Ne.symm ne_b_lb0) nin0))
  replace s_7 := m_26 _ s_7
  replace sb := m_26 _ sb
  refine Road.aloadN 35 bLab1_d35 rfl ?_
  refine Road.iloadN 36 bLab1_d36 rfl ?_
  refine Road.callF (B' := bAlG) (a := o) 37 (argsL := [(.int (0 : Int32))]) (rest := [(.ref q)]) "java/util/ArrayList" 1 bLab1_d37 (hw _ (List.mem_of_getElem? (i := 219) rfl)) (hw _ (List.mem_of_getElem? (i := 220) rfl)) (hw _ (List.mem_of_getElem? (i := 221) rfl)) (hw _ (List.mem_of_getElem? (i := 222) rfl)) (hw _ (List.mem_of_getElem? (i := 223) rfl)) (hw _ (List.mem_of_getElem? (i := 224) rfl)) (hw _ (List.mem_of_getElem? (i := 225) rfl)) (hw _ (List.mem_of_getElem? (i := 61) rfl)) (hw _ (List.mem_of_getElem? (i := 6) rfl)) (hw _ (List.mem_of_getElem? (i := 226) rfl)) (by decide) (by rfl) uE (cAlG l Z a0 hw n0 hEW o ua u0 _ (0 : Int32) (1 : Int32) 0 h_24 σ_25 uE ue uA rfl rfl us (by decide)) (lenOf bAlG_pd rfl) rfl rfl rfl (by decide) (by decide) (ce' := 4) (sl' := 24) rfl rfl (by decide) (by decide) ?_
  rintro _ h_30 σ_31 m_32 ⟨rfl, rfl⟩
  refine Road.Go.weaken (σ' := σ_25) m_32 (Nat.le_refl _) (Nat.le_refl _) ?_
  refine Road.castYes 42 bLab1_d42 (hw _ (List.mem_of_getElem? (i := 240) rfl)) (Ins.self T0.1) ?_
  refine Road.callV (B' := bSp0) (a := q) 45 (argsL := [(.ref u0)]) (rest := []) "java/lang/StringBuilder" 0 bLab1_d45 (hw _ (List.mem_of_getElem? (i := 187) rfl)) (hw _ (List.mem_of_getElem? (i := 188) rfl)) (fun vm hz => Road.notFace_sib (args := #[]) (mv (s := D.s.setVm vm) hz (hw _ (List.mem_of_getElem? (i := 68) rfl))) rfl) (hw _ (List.mem_of_getElem? (i := 190) rfl)) (hw _ (List.mem_of_getElem? (i := 189) rfl)) (hw _ (List.mem_of_getElem? (i := 36) rfl)) (hw _ (List.mem_of_getElem? (i := 191) rfl)) (by decide) S.1 (cSp0 l Z a0 hw n0 hEW q b ([] ++ []) 16 u0 d0 [c0] h_24 σ_25 S T0 (by simp only [List.length_append, List.length_cons, List.length_nil]; omega) sb s_7 cp Hc hcp) (lenOf bSp0_pd rfl) rfl rfl rfl (by decide) (by decide) (ce' := 4) (sl' := 24) rfl rfl (by decide) (by decide) ?_
  rintro _ h_34 σ_35 m_36 ⟨rfl, K_37, S⟩
  replace KT := KT.trans K_37 (by intro z hz; simp only [List.mem_cons, List.not_mem_nil, or_false] at hz; rcases hz with rfl | rfl <;> first | (exact Or.inr (by assumption)) | (simp; done))
  replace uE := uE.keep K_37
  replace us := us.keep K_37 (ninS ne_o_q (ninS ne_o_b nin0))
  replace ue := ue.keep K_37 (ninS ne_o_q (ninS ne_o_b nin0))
  replace uA := uA.keep K_37 (ninS ne_ua_q (ninS ne_ua_b nin0))
  replace vE := vE.keep K_37
  replace vs := vs.keep K_37 (ninS ne_p_q (ninS ne_p_b nin0))
  replace ve := ve.keep K_37 (ninS ne_p_q (ninS ne_p_b nin0))
  replace vA := vA.keep K_37 (ninS ne_va_q (ninS ne_va_b nin0))
  replace T0 := T0.keep K_37 (ninS ne_u0_q (ninS ne_u0_b nin0)) (ninS ne_d0_q (ninS ne_d0_b nin0))
  replace U0 := U0.keep K_37 (ninS ne_v0_q (ninS ne_v0_b nin0)) (ninS ne_w0_q (ninS ne_w0_b nin0))
  replace EB := EB.keep K_37
  replace s_7 := m_36 _ s_7
  replace sb := m_36 _ sb
  refine Road.ldcS 48 "=\"" [(61 : Int32), (34 : Int32)] 8 bLab1_d48 (hw _ (List.mem_of_getElem? (i := 241) rfl)) wS (List.mem_of_getElem? (i := 2) rfl) (by decide) (by decide +kernel) (by decide) (by decide) (by decide) (ce' := 6) (sl' := 36) rfl rfl (by decide) (by decide) ?_
  intro ma0 mb0 h_40 σ_41 K_42 m_43 M0 q_44
  replace KT := KT.trans K_42 (by simp)
  replace uE := uE.keep K_42
  replace us := us.keep K_42 nin0
  replace ue := ue.keep K_42 nin0
  replace uA := uA.keep K_42 nin0
  replace vE := vE.keep K_42
  replace vs := vs.keep K_42 nin0
  replace ve := ve.keep K_42 nin0
  replace vA := vA.keep K_42 nin0
  replace T0 := T0.keep K_42 nin0 nin0
  replace U0 := U0.keep K_42 nin0 nin0
  replace EB := EB.keep K_42
  replace S := S.keep K_42 nin0 nin0
  replace s_7 := m_43 _ s_7
  replace sb := m_43 _ sb
  have ne_q_ma0 : q ≠ ma0 := (q_44 q s_7).1
  have ne_q_mb0 : q ≠ mb0 := (q_44 q s_7).2
  have ne_b_ma0 : b ≠ ma0 := (q_44 b sb).1
  have ne_b_mb0 : b ≠ mb0 := (q_44 b sb).2
  refine Road.callV (B' := bSp0) (a := q) 50 (argsL := [(.ref ma0)]) (rest := []) "java/lang/StringBuilder" 0 bLab1_d50 (hw _ (List.mem_of_getElem? (i := 187) rfl)) (hw _ (List.mem_of_getElem? (i := 188) rfl)) (fun vm hz => Road.notFace_sib (args := #[]) (mv (s := D.s.setVm vm) hz (hw _ (List.mem_of_getElem? (i := 68) rfl))) rfl) (hw _ (List.mem_of_getElem? (i := 190) rfl)) (hw _ (List.mem_of_getElem? (i := 189) rfl)) (hw _ (List.mem_of_getElem? (i := 36) rfl)) (hw _ (List.mem_of_getElem? (i := 191) rfl)) (by decide) S.1 (cSp0 l Z a0 hw n0 hEW q b (([] ++ []) ++ [c0]) 16 ma0 mb0 [61, 34] h_40 σ_41 S M0 (by simp only [List.length_append, List.length_cons, List.length_nil]; omega) sb s_7 cp Hc hcp) (lenOf bSp0_pd rfl) rfl rfl rfl (by decide) (by decide) (ce' := 6) (sl' := 36) rfl rfl (by decide) (by decide) ?_
  rintro _ h_45 σ_46 m_47 ⟨rfl, K_48, S⟩
  replace KT := KT.trans K_48 (by intro z hz; simp only [List.mem_cons, List.not_mem_nil, or_false] at hz; rcases hz with rfl | rfl <;> first | (exact Or.inr (by assumption)) | (simp; done))
  replace uE := uE.keep K_48
  replace us := us.keep K_48 (ninS ne_o_q (ninS ne_o_b nin0))
  replace ue := ue.keep K_48 (ninS ne_o_q (ninS ne_o_b nin0))
  replace uA := uA.keep K_48 (ninS ne_ua_q (ninS ne_ua_b nin0))
  replace vE := vE.keep K_48
  replace vs := vs.keep K_48 (ninS ne_p_q (ninS ne_p_b nin0))
  replace ve := ve.keep K_48 (ninS ne_p_q (ninS ne_p_b nin0))
  replace vA := vA.keep K_48 (ninS ne_va_q (ninS ne_va_b nin0))
  replace T0 := T0.keep K_48 (ninS ne_u0_q (ninS ne_u0_b nin0)) (ninS ne_d0_q (ninS ne_d0_b nin0))
  replace U0 := U0.keep K_48 (ninS ne_v0_q (ninS ne_v0_b nin0)) (ninS ne_w0_q (ninS ne_w0_b nin0))
  replace EB := EB.keep K_48
  replace M0 := M0.keep K_48 (ninS (Ne.symm ne_q_ma0) (ninS (Ne.symm ne_b_ma0) nin0)) (ninS (Ne.symm ne_q_mb0) (ninS (Ne.symm ne_b_mb0) nin0))
  replace s_7 := m_47 _ s_7
  replace sb := m_47 _ sb
  refine Road.pop 53 bLab1_d53 ?_
  refine Road.aloadN 54 bLab1_d54 rfl ?_
  refine Road.iloadN 55 bLab1_d55 rfl ?_
  refine Road.callF (B' := bAlG) (a := p) 56 (argsL := [(.int (0 : Int32))]) (rest := []) "java/util/ArrayList" 0 bLab1_d56 (hw _ (List.mem_of_getElem? (i := 219) rfl)) (hw _ (List.mem_of_getElem? (i := 220) rfl)) (hw _ (List.mem_of_getElem? (i := 221) rfl)) (hw _ (List.mem_of_getElem? (i := 222) rfl)) (hw _ (List.mem_of_getElem? (i := 223) rfl)) (hw _ (List.mem_of_getElem? (i := 224) rfl)) (hw _ (List.mem_of_getElem? (i := 225) rfl)) (hw _ (List.mem_of_getElem? (i := 61) rfl)) (hw _ (List.mem_of_getElem? (i := 6) rfl)) (hw _ (List.mem_of_getElem? (i := 226) rfl)) (by decide) (by rfl) vE (cAlG l Z a0 hw n0 hEW p va v0 _ (0 : Int32) (1 : Int32) 0 h_45 σ_46 vE ve vA rfl rfl vs (by decide)) (lenOf bAlG_pd rfl) rfl rfl rfl (by decide) (by decide) (ce' := 6) (sl' := 36) rfl rfl (by decide) (by decide) ?_
  rintro _ h_51 σ_52 m_53 ⟨rfl, rfl⟩
  refine Road.Go.weaken (σ' := σ_46) m_53 (Nat.le_refl _) (Nat.le_refl _) ?_
  refine Road.castYes 61 bLab1_d61 (hw _ (List.mem_of_getElem? (i := 240) rfl)) (Ins.self U0.1) ?_
  refine Road.iconst 64 (1 : Int32) bLab1_d64 rfl ?_
  refine Road.aloadN 65 bLab1_d65 rfl ?_
  refine Road.callS (B' := bXsc) 66 (argsL := [(.ref v0), (.int (1 : Int32)), (.ref q)]) (rest := []) 0 bLab1_d66 (hw _ (List.mem_of_getElem? (i := 242) rfl)) (hw _ (List.mem_of_getElem? (i := 243) rfl)) (hw _ (List.mem_of_getElem? (i := 32) rfl)) (hw _ (List.mem_of_getElem? (i := 244) rfl)) (by decide) (cXsc l Z a0 hw n0 hEW q b ((([] ++ []) ++ [c0]) ++ [61, 34]) 16 v0 w0 hs0 h_45 σ_46 S U0 hl0 (by simp only [List.length_append, List.length_cons, List.length_nil]; omega) s_7 sb ne_v0_q ne_v0_b ne_w0_q ne_w0_b cp Hc hcp fm hfm Hf) (lenOf bXsc_pd rfl) rfl rfl rfl (by decide) (by decide) (ce' := 10) (sl' := 60) rfl rfl (by decide) (by decide) ?_
  rintro _ h_55 σ_56 m_57 ⟨rfl, K_58, S⟩
  replace KT := KT.trans K_58 (by intro z hz; simp only [List.mem_cons, List.not_mem_nil, or_false] at hz; rcases hz with rfl | rfl <;> first | (exact Or.inr (by assumption)) | (simp; done))
  replace uE := uE.keep K_58
  replace us := us.keep K_58 (ninS ne_o_q (ninS ne_o_b nin0))
  replace ue := ue.keep K_58 (ninS ne_o_q (ninS ne_o_b nin0))
  replace uA := uA.keep K_58 (ninS ne_ua_q (ninS ne_ua_b nin0))
  replace vE := vE.keep K_58
  replace vs := vs.keep K_58 (ninS ne_p_q (ninS ne_p_b nin0))
  replace ve := ve.keep K_58 (ninS ne_p_q (ninS ne_p_b nin0))
  replace vA := vA.keep K_58 (ninS ne_va_q (ninS ne_va_b nin0))
  replace T0 := T0.keep K_58 (ninS ne_u0_q (ninS ne_u0_b nin0)) (ninS ne_d0_q (ninS ne_d0_b nin0))
  replace U0 := U0.keep K_58 (ninS ne_v0_q (ninS ne_v0_b nin0)) (ninS ne_w0_q (ninS ne_w0_b nin0))
  replace EB := EB.keep K_58
  replace s_7 := m_57 _ s_7
  replace sb := m_57 _ sb
  refine Road.aloadN 69 bLab1_d69 rfl ?_
  refine Road.bipush 70 (34 : Int32) bLab1_d70 rfl ?_
  refine Road.callV (B' := bSc0) (a := q) 72 (argsL := [(.int (34 : Int32))]) (rest := []) "java/lang/StringBuilder" 0 bLab1_d72 (hw _ (List.mem_of_getElem? (i := 246) rfl)) (hw _ (List.mem_of_getElem? (i := 247) rfl)) (fun vm hz => Road.notFace_sib (args := #[]) (mv (s := D.s.setVm vm) hz (hw _ (List.mem_of_getElem? (i := 68) rfl))) rfl) (hw _ (List.mem_of_getElem? (i := 249) rfl)) (hw _ (List.mem_of_getElem? (i := 248) rfl)) (hw _ (List.mem_of_getElem? (i := 36) rfl)) (hw _ (List.mem_of_getElem? (i := 250) rfl)) (by decide) S.1 (cSc0 l Z a0 hw n0 hEW q b (((([] ++ []) ++ [c0]) ++ [61, 34]) ++ escL hs0) 16 34 h_55 σ_56 S (by decide) (by simp only [List.length_append, List.length_cons, List.length_nil]; omega) sb s_7 cp Hc hcp) (lenOf bSc0_pd rfl) rfl rfl rfl (by decide) (by decide) (ce' := 10) (sl' := 60) rfl rfl (by decide) (by decide) ?_
  rintro _ h_61 σ_62 m_63 ⟨rfl, K_64, S⟩
  replace KT := KT.trans K_64 (by intro z hz; simp only [List.mem_cons, List.not_mem_nil, or_false] at hz; rcases hz with rfl | rfl <;> first | (exact Or.inr (by assumption)) | (simp; done))
  replace uE := uE.keep K_64
  replace us := us.keep K_64 (ninS ne_o_q (ninS ne_o_b nin0))
  replace ue := ue.keep K_64 (ninS ne_o_q (ninS ne_o_b nin0))
  replace uA := uA.keep K_64 (ninS ne_ua_q (ninS ne_ua_b nin0))
  replace vE := vE.keep K_64
  replace vs := vs.keep K_64 (ninS ne_p_q (ninS ne_p_b nin0))
  replace ve := ve.keep K_64 (ninS ne_p_q (ninS ne_p_b nin0))
  replace vA := vA.keep K_64 (ninS ne_va_q (ninS ne_va_b nin0))
  replace T0 := T0.keep K_64 (ninS ne_u0_q (ninS ne_u0_b nin0)) (ninS ne_d0_q (ninS ne_d0_b nin0))
  replace U0 := U0.keep K_64 (ninS ne_v0_q (ninS ne_v0_b nin0)) (ninS ne_w0_q (ninS ne_w0_b nin0))
  replace EB := EB.keep K_64
  replace s_7 := m_63 _ s_7
  replace sb := m_63 _ sb
  refine Road.pop 75 bLab1_d75 ?_
  refine Road.iinc 76 (1) #[.val (.ref o), .val (.ref p), .val (.ref q), .val (.int ((0 : Int32) + 1))] bLab1_d76 rfl rfl rfl ?_
  refine Road.goto 79 10 bLab1_d79 rfl ?_
  rw [show (0 : Int32) + 1 = 1 from by decide]
  refine Road.iloadN 10 bLab1_d10 rfl ?_
  refine Road.aloadN 11 bLab1_d11 rfl ?_
  refine Road.callF (B' := bAlS) (a := o) 12 (argsL := []) (rest := [(.int (1 : Int32))]) "java/util/ArrayList" 1 bLab1_d12 (hw _ (List.mem_of_getElem? (i := 54) rfl)) (hw _ (List.mem_of_getElem? (i := 55) rfl)) (hw _ (List.mem_of_getElem? (i := 56) rfl)) (hw _ (List.mem_of_getElem? (i := 57) rfl)) (hw _ (List.mem_of_getElem? (i := 58) rfl)) (hw _ (List.mem_of_getElem? (i := 59) rfl)) (hw _ (List.mem_of_getElem? (i := 60) rfl)) (hw _ (List.mem_of_getElem? (i := 61) rfl)) (hw _ (List.mem_of_getElem? (i := 6) rfl)) (hw _ (List.mem_of_getElem? (i := 62) rfl)) (by decide) (by rfl) uE (cAlS l Z a0 hw n0 hEW o 1 h_61 σ_62 us) (lenOf bAlS_pd rfl) rfl rfl rfl (by decide) (by decide) (ce' := 10) (sl' := 60) rfl rfl (by decide) (by decide) ?_
  rintro _ h_67 σ_68 m_69 ⟨rfl, rfl⟩
  refine Road.Go.weaken (σ' := σ_62) m_69 (Nat.le_refl _) (Nat.le_refl _) ?_
  refine Road.icmp_ge 17 82 bLab1_d17 rfl (fun hc17 => ?_) (fun q => absurd q (by decide))
  refine Road.aloadN 82 bLab1_d82 rfl ?_
  have ee : ((((([] ++ []) ++ [c0]) ++ [61, 34]) ++ escL hs0) ++ [34]) = (labL true c0 hs0) := by simp [labL]
  refine Road.callV (B' := bToS) (a := q) 83 (argsL := []) (rest := []) "java/lang/StringBuilder" 0 bLab1_d83 (hw _ (List.mem_of_getElem? (i := 65) rfl)) (hw _ (List.mem_of_getElem? (i := 66) rfl)) (fun vm hz => Road.notFace_sib (args := #[]) (mv (s := D.s.setVm vm) hz (hw _ (List.mem_of_getElem? (i := 68) rfl))) rfl) (hw _ (List.mem_of_getElem? (i := 68) rfl)) (hw _ (List.mem_of_getElem? (i := 67) rfl)) (hw _ (List.mem_of_getElem? (i := 36) rfl)) (hw _ (List.mem_of_getElem? (i := 69) rfl)) (by decide) S.1 (cToS l Z a0 hw n0 hEW q b ((((([] ++ []) ++ [c0]) ++ [61, 34]) ++ escL hs0) ++ [34]) 16 h_61 σ_62 S (by simp only [List.length_append, List.length_cons, List.length_nil]; omega) (by simp only [List.length_append, List.length_cons, List.length_nil]; omega) cp Hc hcp) (lenOf bToS_pd rfl) rfl rfl rfl (by decide) (by decide) (ce' := 12) (sl' := 81) rfl rfl (by decide) (by decide) ?_
  rintro _ h_71 σ_72 m_73 ⟨r, rd, rfl, gr, grd, K_74, T⟩
  replace KT := KT.trans K_74 (by simp)
  replace s_7 := m_73 _ s_7
  replace sb := m_73 _ sb
  rw [ee] at T
  exact Road.aret 86 bLab1_d86 (t := (.object "java/lang/String")) rfl rfl rfl (by decide) (by decide) (fun σ' m => ⟨r, rd, rfl, KT, T⟩)
def bLab2 : Road.Bdy := (⟨"com/example/meerkat/meerkat/metrics/Exposition", "labels", "(Ljava/util/List;Ljava/util/List;)Ljava/lang/String;"⟩, prog_10_method_5_code, 4, (some (.object "java/lang/String")), { frames := 6, cells := 21, slots := 163, locals := 95 })
theorem bLab2_d0 : decode bLab2.bs 0 = .ok (.new 7, 3) := by decide +kernel
theorem bLab2_d3 : decode bLab2.bs 3 = .ok (.dup, 1) := by decide +kernel
theorem bLab2_d4 : decode bLab2.bs 4 = .ok (.invokespecial 9, 3) := by decide +kernel
theorem bLab2_d7 : decode bLab2.bs 7 = .ok (.astore_n 2, 1) := by decide +kernel
theorem bLab2_d8 : decode bLab2.bs 8 = .ok (.iconst 0, 1) := by decide +kernel
theorem bLab2_d9 : decode bLab2.bs 9 = .ok (.istore_n 3, 1) := by decide +kernel
theorem bLab2_d10 : decode bLab2.bs 10 = .ok (.iload_n 3, 1) := by decide +kernel
theorem bLab2_d11 : decode bLab2.bs 11 = .ok (.aload_n 0, 1) := by decide +kernel
theorem bLab2_d12 : decode bLab2.bs 12 = .ok (.invokeinterface 41 1, 5) := by decide +kernel
theorem bLab2_d17 : decode bLab2.bs 17 = .ok (.if_icmp .ge 65, 3) := by decide +kernel
theorem bLab2_d20 : decode bLab2.bs 20 = .ok (.aload_n 2, 1) := by decide +kernel
theorem bLab2_d21 : decode bLab2.bs 21 = .ok (.iload_n 3, 1) := by decide +kernel
theorem bLab2_d22 : decode bLab2.bs 22 = .ok (.ifCond .ne 8, 3) := by decide +kernel
theorem bLab2_d25 : decode bLab2.bs 25 = .ok (.ldc 47, 2) := by decide +kernel
theorem bLab2_d27 : decode bLab2.bs 27 = .ok (.goto 5, 3) := by decide +kernel
theorem bLab2_d30 : decode bLab2.bs 30 = .ok (.ldc 49, 2) := by decide +kernel
theorem bLab2_d32 : decode bLab2.bs 32 = .ok (.invokevirtual 18, 3) := by decide +kernel
theorem bLab2_d35 : decode bLab2.bs 35 = .ok (.aload_n 0, 1) := by decide +kernel
theorem bLab2_d36 : decode bLab2.bs 36 = .ok (.iload_n 3, 1) := by decide +kernel
theorem bLab2_d37 : decode bLab2.bs 37 = .ok (.invokeinterface 51 2, 5) := by decide +kernel
theorem bLab2_d42 : decode bLab2.bs 42 = .ok (.checkcast 32, 3) := by decide +kernel
theorem bLab2_d45 : decode bLab2.bs 45 = .ok (.invokevirtual 18, 3) := by decide +kernel
theorem bLab2_d48 : decode bLab2.bs 48 = .ok (.ldc 55, 2) := by decide +kernel
theorem bLab2_d50 : decode bLab2.bs 50 = .ok (.invokevirtual 18, 3) := by decide +kernel
theorem bLab2_d53 : decode bLab2.bs 53 = .ok (.pop, 1) := by decide +kernel
theorem bLab2_d54 : decode bLab2.bs 54 = .ok (.aload_n 1, 1) := by decide +kernel
theorem bLab2_d55 : decode bLab2.bs 55 = .ok (.iload_n 3, 1) := by decide +kernel
theorem bLab2_d56 : decode bLab2.bs 56 = .ok (.invokeinterface 51 2, 5) := by decide +kernel
theorem bLab2_d61 : decode bLab2.bs 61 = .ok (.checkcast 32, 3) := by decide +kernel
theorem bLab2_d64 : decode bLab2.bs 64 = .ok (.iconst 1, 1) := by decide +kernel
theorem bLab2_d65 : decode bLab2.bs 65 = .ok (.aload_n 2, 1) := by decide +kernel
theorem bLab2_d66 : decode bLab2.bs 66 = .ok (.invokestatic 25, 3) := by decide +kernel
theorem bLab2_d69 : decode bLab2.bs 69 = .ok (.aload_n 2, 1) := by decide +kernel
theorem bLab2_d70 : decode bLab2.bs 70 = .ok (.bipush 34, 2) := by decide +kernel
theorem bLab2_d72 : decode bLab2.bs 72 = .ok (.invokevirtual 22, 3) := by decide +kernel
theorem bLab2_d75 : decode bLab2.bs 75 = .ok (.pop, 1) := by decide +kernel
theorem bLab2_d76 : decode bLab2.bs 76 = .ok (.iinc 3 1, 3) := by decide +kernel
theorem bLab2_d79 : decode bLab2.bs 79 = .ok (.goto (-69), 3) := by decide +kernel
theorem bLab2_d82 : decode bLab2.bs 82 = .ok (.aload_n 2, 1) := by decide +kernel
theorem bLab2_d83 : decode bLab2.bs 83 = .ok (.invokevirtual 37, 3) := by decide +kernel
theorem bLab2_d86 : decode bLab2.bs 86 = .ok (.areturn, 1) := by decide +kernel
theorem bLab2_pd : parseMethodDescriptor "(Ljava/util/List;Ljava/util/List;)Ljava/lang/String;" = some ⟨[(.object "java/util/List"), (.object "java/util/List")], (some (.object "java/lang/String"))⟩ := by decide +kernel
theorem bLab2_pn : plainFor bLab2.y = true := plainFor_of_name (show plainName "com/example/meerkat/meerkat/metrics/Exposition" = true from by first | (simp [plainName, overriddenIn]; done) | decide +kernel)
theorem cLab2 (l : Launch) (Z : State) (a0 : Array Value) (hw : ∀ d ∈ tables_1, d.before a0 Z = true) (n0 : Nat) (hEW : EW Z a0 consts_1) (o p : Addr) (ua va : Addr) (u0 d0 v0 w0 : Addr) (c0 : Int32) (hs0 : List Int32) (u1 d1 v1 w1 : Addr) (c1 : Int32) (hs1 : List Int32) (h0 : Heap) (σ : Addr → Prop) (uE : Exa Z h0 o "java/util/ArrayList") (us : Fld Z h0 o "java/util/ArrayList" "size" "I" (.int 2)) (ue : Fld Z h0 o "java/util/ArrayList" "elementData" "[Ljava/lang/Object;" (.ref ua)) (uA : Road.Ary Z h0 ua (.object "java/lang/Object") (.ref u0 :: .ref u1 :: List.replicate 8 .null)) (vE : Exa Z h0 p "java/util/ArrayList") (vs : Fld Z h0 p "java/util/ArrayList" "size" "I" (.int 2)) (ve : Fld Z h0 p "java/util/ArrayList" "elementData" "[Ljava/lang/Object;" (.ref va)) (vA : Road.Ary Z h0 va (.object "java/lang/Object") (.ref v0 :: .ref v1 :: List.replicate 8 .null)) (T0 : Road.Str Z h0 u0 d0 [c0]) (U0 : Road.Str Z h0 v0 w0 hs0) (hl0 : hs0.length ≤ 2) (T1 : Road.Str Z h0 u1 d1 [c1]) (U1 : Road.Str Z h0 v1 w1 hs1) (hl1 : hs1.length ≤ 2) (cp : Int32) (Hc : Sta Z Z.heap Road.SN "COMPACT_STRINGS" "Z" (.int cp)) (hcp : ¬ cp = 0) (fm : Value) (hfm : fm.isRef = true) (Hf : Sta Z Z.heap "jdk/internal/util/Preconditions" "SIOOBE_FORMATTER" "Ljava/util/function/BiFunction;" fm) :
    Road.Con l Z consts_1 n0 false bLab2 [] σ #[(.ref o), (.ref p)] h0 (fun v h2 s2 => ∃ r rd, v = some (.ref r) ∧ Keep h0 h2 [] ∧ Road.Str Z h2 r rd (labL true c0 hs0 ++ labL false c1 hs1)) := by
  have wS : ∀ d ∈ Bundle.stringAtoms, d.before a0 Z = true := fun d hd => hw d ((by decide +kernel : ∀ d ∈ Bundle.stringAtoms, d ∈ tables_1) d hd)
  have hel0 := escL_len hs0
  have hel1 := escL_len hs1
  refine Road.Con.of bLab2_pn hEW #[.val (.ref o), .val (.ref p), .unset, .unset] (fun m => Road.ent (Road.laid1 rfl (Road.laid1 rfl Road.laid0)) (k := 2) rfl rfl) ?_
  intro D hD
  have KT := Keep.refl h0 ([] : List Addr)
  refine Road.new 0 "java/lang/StringBuilder" bLab2_d0 (hw _ (List.mem_of_getElem? (i := 34) rfl)) (hw _ (List.mem_of_getElem? (i := 35) rfl)) (hw _ (List.mem_of_getElem? (i := 36) rfl)) (ce' := 1) (sl' := 4) rfl rfl (by decide) (by decide) ?_
  intro q h_1 σ_2 g_3 K_4 lt_5 m_6 s_7 Eq D_8 M_9
  have gk_q := Nat.le_trans KT.1 (Nat.le_of_eq g_3.symm)
  have ne_o_q : o ≠ q := Nat.ne_of_lt (Nat.lt_of_lt_of_le uE.lt (Nat.le_of_eq g_3.symm))
  have ne_ua_q : ua ≠ q := Nat.ne_of_lt (Nat.lt_of_lt_of_le uA.lt (Nat.le_of_eq g_3.symm))
  have ne_p_q : p ≠ q := Nat.ne_of_lt (Nat.lt_of_lt_of_le vE.lt (Nat.le_of_eq g_3.symm))
  have ne_va_q : va ≠ q := Nat.ne_of_lt (Nat.lt_of_lt_of_le vA.lt (Nat.le_of_eq g_3.symm))
  have ne_u0_q : u0 ≠ q := Nat.ne_of_lt (Nat.lt_of_lt_of_le T0.lt (Nat.le_of_eq g_3.symm))
  have ne_d0_q : d0 ≠ q := Nat.ne_of_lt (Nat.lt_of_lt_of_le T0.ltb (Nat.le_of_eq g_3.symm))
  have ne_v0_q : v0 ≠ q := Nat.ne_of_lt (Nat.lt_of_lt_of_le U0.lt (Nat.le_of_eq g_3.symm))
  have ne_w0_q : w0 ≠ q := Nat.ne_of_lt (Nat.lt_of_lt_of_le U0.ltb (Nat.le_of_eq g_3.symm))
  have ne_u1_q : u1 ≠ q := Nat.ne_of_lt (Nat.lt_of_lt_of_le T1.lt (Nat.le_of_eq g_3.symm))
  have ne_d1_q : d1 ≠ q := Nat.ne_of_lt (Nat.lt_of_lt_of_le T1.ltb (Nat.le_of_eq g_3.symm))
  have ne_v1_q : v1 ≠ q := Nat.ne_of_lt (Nat.lt_of_lt_of_le U1.lt (Nat.le_of_eq g_3.symm))
  have ne_w1_q : w1 ≠ q := Nat.ne_of_lt (Nat.lt_of_lt_of_le U1.ltb (Nat.le_of_eq g_3.symm))
  replace KT := KT.trans K_4 (by simp)
  replace uE := uE.keep K_4
  replace us := us.keep K_4 nin0
  replace ue := ue.keep K_4 nin0
  replace uA := uA.keep K_4 nin0
  replace vE := vE.keep K_4
  replace vs := vs.keep K_4 nin0
  replace ve := ve.keep K_4 nin0
  replace vA := vA.keep K_4 nin0
  replace T0 := T0.keep K_4 nin0 nin0
  replace U0 := U0.keep K_4 nin0 nin0
  replace T1 := T1.keep K_4 nin0 nin0
  replace U1 := U1.keep K_4 nin0 nin0
  have Fc := D_8 (Or.inl (hw _ (List.mem_of_getElem? (i := 53) rfl))) (ty := .byte) (by decide)
  have Fv := D_8 (Or.inl (hw _ (List.mem_of_getElem? (i := 51) rfl))) (ty := (.array .byte)) (by decide)
  have Fn := D_8 (Or.inl (hw _ (List.mem_of_getElem? (i := 95) rfl))) (ty := .int) (by decide)
  refine Road.dup 3 bLab2_d3 ?_
  refine Road.callI (B' := bSbI) (a := q) 4 (argsL := []) (rest := [(.ref q)]) 1 bLab2_d4 (hw _ (List.mem_of_getElem? (i := 37) rfl)) (hw _ (List.mem_of_getElem? (i := 38) rfl)) (hw _ (List.mem_of_getElem? (i := 36) rfl)) (hw _ (List.mem_of_getElem? (i := 39) rfl)) rfl rfl (by decide) (cSbI l Z a0 hw n0 hEW q h_1 σ_2 Eq Fc Fv Fn s_7 cp Hc hcp) (lenOf bSbI_pd rfl) rfl rfl rfl (by decide) (by decide) (ce' := 2) (sl' := 20) rfl rfl (by decide) (by decide) ?_
  rintro _ h_10 σ_11 m_12 ⟨rfl, K_13, b, S, gb, sb, EB⟩
  have gk_b := Nat.le_trans KT.1 gb
  have ne_o_b : o ≠ b := Nat.ne_of_lt (Nat.lt_of_lt_of_le uE.lt gb)
  have ne_ua_b : ua ≠ b := Nat.ne_of_lt (Nat.lt_of_lt_of_le uA.lt gb)
  have ne_p_b : p ≠ b := Nat.ne_of_lt (Nat.lt_of_lt_of_le vE.lt gb)
  have ne_va_b : va ≠ b := Nat.ne_of_lt (Nat.lt_of_lt_of_le vA.lt gb)
  have ne_u0_b : u0 ≠ b := Nat.ne_of_lt (Nat.lt_of_lt_of_le T0.lt gb)
  have ne_d0_b : d0 ≠ b := Nat.ne_of_lt (Nat.lt_of_lt_of_le T0.ltb gb)
  have ne_v0_b : v0 ≠ b := Nat.ne_of_lt (Nat.lt_of_lt_of_le U0.lt gb)
  have ne_w0_b : w0 ≠ b := Nat.ne_of_lt (Nat.lt_of_lt_of_le U0.ltb gb)
  have ne_u1_b : u1 ≠ b := Nat.ne_of_lt (Nat.lt_of_lt_of_le T1.lt gb)
  have ne_d1_b : d1 ≠ b := Nat.ne_of_lt (Nat.lt_of_lt_of_le T1.ltb gb)
  have ne_v1_b : v1 ≠ b := Nat.ne_of_lt (Nat.lt_of_lt_of_le U1.lt gb)
  have ne_w1_b : w1 ≠ b := Nat.ne_of_lt (Nat.lt_of_lt_of_le U1.ltb gb)
  replace KT := KT.trans K_13 (by intro z hz; simp only [List.mem_cons, List.not_mem_nil, or_false] at hz; rcases hz with rfl <;> first | (exact Or.inr (by assumption)) | (simp; done))
  replace uE := uE.keep K_13
  replace us := us.keep K_13 (ninS ne_o_q nin0)
  replace ue := ue.keep K_13 (ninS ne_o_q nin0)
  replace uA := uA.keep K_13 (ninS ne_ua_q nin0)
  replace vE := vE.keep K_13
  replace vs := vs.keep K_13 (ninS ne_p_q nin0)
  replace ve := ve.keep K_13 (ninS ne_p_q nin0)
  replace vA := vA.keep K_13 (ninS ne_va_q nin0)
  replace T0 := T0.keep K_13 (ninS ne_u0_q nin0) (ninS ne_d0_q nin0)
  replace U0 := U0.keep K_13 (ninS ne_v0_q nin0) (ninS ne_w0_q nin0)
  replace T1 := T1.keep K_13 (ninS ne_u1_q nin0) (ninS ne_d1_q nin0)
  replace U1 := U1.keep K_13 (ninS ne_v1_q nin0) (ninS ne_w1_q nin0)
  replace s_7 := m_12 _ s_7
  refine Road.astoreN 7 #[.val (.ref o), .val (.ref p), .val (.ref q), .unset] bLab2_d7 rfl ?_
  refine Road.iconst 8 (0 : Int32) bLab2_d8 rfl ?_
  refine Road.istoreN 9 #[.val (.ref o), .val (.ref p), .val (.ref q), .val (.int (0 : Int32))] bLab2_d9 rfl ?_
  refine Road.iloadN 10 bLab2_d10 rfl ?_
  refine Road.aloadN 11 bLab2_d11 rfl ?_
  refine Road.callF (B' := bAlS) (a := o) 12 (argsL := []) (rest := [(.int (0 : Int32))]) "java/util/ArrayList" 1 bLab2_d12 (hw _ (List.mem_of_getElem? (i := 54) rfl)) (hw _ (List.mem_of_getElem? (i := 55) rfl)) (hw _ (List.mem_of_getElem? (i := 56) rfl)) (hw _ (List.mem_of_getElem? (i := 57) rfl)) (hw _ (List.mem_of_getElem? (i := 58) rfl)) (hw _ (List.mem_of_getElem? (i := 59) rfl)) (hw _ (List.mem_of_getElem? (i := 60) rfl)) (hw _ (List.mem_of_getElem? (i := 61) rfl)) (hw _ (List.mem_of_getElem? (i := 6) rfl)) (hw _ (List.mem_of_getElem? (i := 62) rfl)) (by decide) (by rfl) uE (cAlS l Z a0 hw n0 hEW o 2 h_10 σ_11 us) (lenOf bAlS_pd rfl) rfl rfl rfl (by decide) (by decide) (ce' := 2) (sl' := 20) rfl rfl (by decide) (by decide) ?_
  rintro _ h_15 σ_16 m_17 ⟨rfl, rfl⟩
  refine Road.Go.weaken (σ' := σ_11) m_17 (Nat.le_refl _) (Nat.le_refl _) ?_
  refine Road.icmp_ge 17 82 bLab2_d17 rfl (fun q => absurd q (by decide)) (fun hc17 => ?_)
  refine Road.aloadN 20 bLab2_d20 rfl ?_
  refine Road.iloadN 21 bLab2_d21 rfl ?_
  refine Road.if_ne 22 30 bLab2_d22 rfl (fun q => absurd q (by decide)) (fun hc22 => ?_)
  refine Road.ldcS 25 "" [] 0 bLab2_d25 (hw _ (List.mem_of_getElem? (i := 186) rfl)) wS (List.mem_of_getElem? (i := 0) rfl) (by decide) (by decide +kernel) (by decide) (by decide) (by decide) (ce' := 4) (sl' := 24) rfl rfl (by decide) (by decide) ?_
  intro la0 lb0 h_19 σ_20 K_21 m_22 L0 q_23
  replace KT := KT.trans K_21 (by simp)
  replace uE := uE.keep K_21
  replace us := us.keep K_21 nin0
  replace ue := ue.keep K_21 nin0
  replace uA := uA.keep K_21 nin0
  replace vE := vE.keep K_21
  replace vs := vs.keep K_21 nin0
  replace ve := ve.keep K_21 nin0
  replace vA := vA.keep K_21 nin0
  replace T0 := T0.keep K_21 nin0 nin0
  replace U0 := U0.keep K_21 nin0 nin0
  replace T1 := T1.keep K_21 nin0 nin0
  replace U1 := U1.keep K_21 nin0 nin0
  replace S := S.keep K_21 nin0 nin0
  replace EB := EB.keep K_21
  replace s_7 := m_22 _ s_7
  replace sb := m_22 _ sb
  have ne_q_la0 : q ≠ la0 := (q_23 q s_7).1
  have ne_q_lb0 : q ≠ lb0 := (q_23 q s_7).2
  have ne_b_la0 : b ≠ la0 := (q_23 b sb).1
  have ne_b_lb0 : b ≠ lb0 := (q_23 b sb).2
  refine Road.goto 27 32 bLab2_d27 rfl ?_
  refine Road.callV (B' := bSp0) (a := q) 32 (argsL := [(.ref la0)]) (rest := []) "java/lang/StringBuilder" 0 bLab2_d32 (hw _ (List.mem_of_getElem? (i := 187) rfl)) (hw _ (List.mem_of_getElem? (i := 188) rfl)) (fun vm hz => Road.notFace_sib (args := #[]) (mv (s := D.s.setVm vm) hz (hw _ (List.mem_of_getElem? (i := 68) rfl))) rfl) (hw _ (List.mem_of_getElem? (i := 190) rfl)) (hw _ (List.mem_of_getElem? (i := 189) rfl)) (hw _ (List.mem_of_getElem? (i := 36) rfl)) (hw _ (List.mem_of_getElem? (i := 191) rfl)) (by decide) S.1 (cSp0 l Z a0 hw n0 hEW q b [] 16 la0 lb0 [] h_19 σ_20 S L0 (by simp only [List.length_append, List.length_cons, List.length_nil]; omega) sb s_7 cp Hc hcp) (lenOf bSp0_pd rfl) rfl rfl rfl (by decide) (by decide) (ce' := 4) (sl' := 24) rfl rfl (by decide) (by decide) ?_
  rintro _ h_24 σ_25 m_26 ⟨rfl, K_27, S⟩
  replace KT := KT.trans K_27 (by intro z hz; simp only [List.mem_cons, List.not_mem_nil, or_false] at hz; rcases hz with rfl | rfl <;> first | (exact Or.inr (by assumption)) | (simp; done))
  replace uE := uE.keep K_27
  replace us := us.keep K_27 (ninS ne_o_q (ninS ne_o_b nin0))
  replace ue := ue.keep K_27 (ninS ne_o_q (ninS ne_o_b nin0))
  replace uA := uA.keep K_27 (ninS ne_ua_q (ninS ne_ua_b nin0))
  replace vE := vE.keep K_27
  replace vs := vs.keep K_27 (ninS ne_p_q (ninS ne_p_b nin0))
  replace ve := ve.keep K_27 (ninS ne_p_q (ninS ne_p_b nin0))
  replace vA := vA.keep K_27 (ninS ne_va_q (ninS ne_va_b nin0))
  replace T0 := T0.keep K_27 (ninS ne_u0_q (ninS ne_u0_b nin0)) (ninS ne_d0_q (ninS ne_d0_b nin0))
  replace U0 := U0.keep K_27 (ninS ne_v0_q (ninS ne_v0_b nin0)) (ninS ne_w0_q (ninS ne_w0_b nin0))
  replace T1 := T1.keep K_27 (ninS ne_u1_q (ninS ne_u1_b nin0)) (ninS ne_d1_q (ninS ne_d1_b nin0))
  replace U1 := U1.keep K_27 (ninS ne_v1_q (ninS ne_v1_b nin0)) (ninS ne_w1_q (ninS ne_w1_b nin0))
  replace EB := EB.keep K_27
  replace L0 := L0.keep K_27 (ninS (Ne.symm ne_q_la0) (ninS (Ne.symm ne_b_la0) nin0)) (ninS (Ne.symm ne_q_lb0) (ninS (Ne.symm ne_b_lb0) nin0))
  replace s_7 := m_26 _ s_7
  replace sb := m_26 _ sb
  refine Road.aloadN 35 bLab2_d35 rfl ?_
  refine Road.iloadN 36 bLab2_d36 rfl ?_
  refine Road.callF (B' := bAlG) (a := o) 37 (argsL := [(.int (0 : Int32))]) (rest := [(.ref q)]) "java/util/ArrayList" 1 bLab2_d37 (hw _ (List.mem_of_getElem? (i := 219) rfl)) (hw _ (List.mem_of_getElem? (i := 220) rfl)) (hw _ (List.mem_of_getElem? (i := 221) rfl)) (hw _ (List.mem_of_getElem? (i := 222) rfl)) (hw _ (List.mem_of_getElem? (i := 223) rfl)) (hw _ (List.mem_of_getElem? (i := 224) rfl)) (hw _ (List.mem_of_getElem? (i := 225) rfl)) (hw _ (List.mem_of_getElem? (i := 61) rfl)) (hw _ (List.mem_of_getElem? (i := 6) rfl)) (hw _ (List.mem_of_getElem? (i := 226) rfl)) (by decide) (by rfl) uE (cAlG l Z a0 hw n0 hEW o ua u0 _ (0 : Int32) (2 : Int32) 0 h_24 σ_25 uE ue uA rfl rfl us (by decide)) (lenOf bAlG_pd rfl) rfl rfl rfl (by decide) (by decide) (ce' := 4) (sl' := 24) rfl rfl (by decide) (by decide) ?_
  rintro _ h_30 σ_31 m_32 ⟨rfl, rfl⟩
  refine Road.Go.weaken (σ' := σ_25) m_32 (Nat.le_refl _) (Nat.le_refl _) ?_
  refine Road.castYes 42 bLab2_d42 (hw _ (List.mem_of_getElem? (i := 240) rfl)) (Ins.self T0.1) ?_
  refine Road.callV (B' := bSp0) (a := q) 45 (argsL := [(.ref u0)]) (rest := []) "java/lang/StringBuilder" 0 bLab2_d45 (hw _ (List.mem_of_getElem? (i := 187) rfl)) (hw _ (List.mem_of_getElem? (i := 188) rfl)) (fun vm hz => Road.notFace_sib (args := #[]) (mv (s := D.s.setVm vm) hz (hw _ (List.mem_of_getElem? (i := 68) rfl))) rfl) (hw _ (List.mem_of_getElem? (i := 190) rfl)) (hw _ (List.mem_of_getElem? (i := 189) rfl)) (hw _ (List.mem_of_getElem? (i := 36) rfl)) (hw _ (List.mem_of_getElem? (i := 191) rfl)) (by decide) S.1 (cSp0 l Z a0 hw n0 hEW q b ([] ++ []) 16 u0 d0 [c0] h_24 σ_25 S T0 (by simp only [List.length_append, List.length_cons, List.length_nil]; omega) sb s_7 cp Hc hcp) (lenOf bSp0_pd rfl) rfl rfl rfl (by decide) (by decide) (ce' := 4) (sl' := 24) rfl rfl (by decide) (by decide) ?_
  rintro _ h_34 σ_35 m_36 ⟨rfl, K_37, S⟩
  replace KT := KT.trans K_37 (by intro z hz; simp only [List.mem_cons, List.not_mem_nil, or_false] at hz; rcases hz with rfl | rfl <;> first | (exact Or.inr (by assumption)) | (simp; done))
  replace uE := uE.keep K_37
  replace us := us.keep K_37 (ninS ne_o_q (ninS ne_o_b nin0))
  replace ue := ue.keep K_37 (ninS ne_o_q (ninS ne_o_b nin0))
  replace uA := uA.keep K_37 (ninS ne_ua_q (ninS ne_ua_b nin0))
  replace vE := vE.keep K_37
  replace vs := vs.keep K_37 (ninS ne_p_q (ninS ne_p_b nin0))
  replace ve := ve.keep K_37 (ninS ne_p_q (ninS ne_p_b nin0))
  replace vA := vA.keep K_37 (ninS ne_va_q (ninS ne_va_b nin0))
  replace T0 := T0.keep K_37 (ninS ne_u0_q (ninS ne_u0_b nin0)) (ninS ne_d0_q (ninS ne_d0_b nin0))
  replace U0 := U0.keep K_37 (ninS ne_v0_q (ninS ne_v0_b nin0)) (ninS ne_w0_q (ninS ne_w0_b nin0))
  replace T1 := T1.keep K_37 (ninS ne_u1_q (ninS ne_u1_b nin0)) (ninS ne_d1_q (ninS ne_d1_b nin0))
  replace U1 := U1.keep K_37 (ninS ne_v1_q (ninS ne_v1_b nin0)) (ninS ne_w1_q (ninS ne_w1_b nin0))
  replace EB := EB.keep K_37
  replace s_7 := m_36 _ s_7
  replace sb := m_36 _ sb
  refine Road.ldcS 48 "=\"" [(61 : Int32), (34 : Int32)] 8 bLab2_d48 (hw _ (List.mem_of_getElem? (i := 241) rfl)) wS (List.mem_of_getElem? (i := 2) rfl) (by decide) (by decide +kernel) (by decide) (by decide) (by decide) (ce' := 6) (sl' := 36) rfl rfl (by decide) (by decide) ?_
  intro ma0 mb0 h_40 σ_41 K_42 m_43 M0 q_44
  replace KT := KT.trans K_42 (by simp)
  replace uE := uE.keep K_42
  replace us := us.keep K_42 nin0
  replace ue := ue.keep K_42 nin0
  replace uA := uA.keep K_42 nin0
  replace vE := vE.keep K_42
  replace vs := vs.keep K_42 nin0
  replace ve := ve.keep K_42 nin0
  replace vA := vA.keep K_42 nin0
  replace T0 := T0.keep K_42 nin0 nin0
  replace U0 := U0.keep K_42 nin0 nin0
  replace T1 := T1.keep K_42 nin0 nin0
  replace U1 := U1.keep K_42 nin0 nin0
  replace EB := EB.keep K_42
  replace S := S.keep K_42 nin0 nin0
  replace s_7 := m_43 _ s_7
  replace sb := m_43 _ sb
  have ne_q_ma0 : q ≠ ma0 := (q_44 q s_7).1
  have ne_q_mb0 : q ≠ mb0 := (q_44 q s_7).2
  have ne_b_ma0 : b ≠ ma0 := (q_44 b sb).1
  have ne_b_mb0 : b ≠ mb0 := (q_44 b sb).2
  refine Road.callV (B' := bSp0) (a := q) 50 (argsL := [(.ref ma0)]) (rest := []) "java/lang/StringBuilder" 0 bLab2_d50 (hw _ (List.mem_of_getElem? (i := 187) rfl)) (hw _ (List.mem_of_getElem? (i := 188) rfl)) (fun vm hz => Road.notFace_sib (args := #[]) (mv (s := D.s.setVm vm) hz (hw _ (List.mem_of_getElem? (i := 68) rfl))) rfl) (hw _ (List.mem_of_getElem? (i := 190) rfl)) (hw _ (List.mem_of_getElem? (i := 189) rfl)) (hw _ (List.mem_of_getElem? (i := 36) rfl)) (hw _ (List.mem_of_getElem? (i := 191) rfl)) (by decide) S.1 (cSp0 l Z a0 hw n0 hEW q b (([] ++ []) ++ [c0]) 16 ma0 mb0 [61, 34] h_40 σ_41 S M0 (by simp only [List.length_append, List.length_cons, List.length_nil]; omega) sb s_7 cp Hc hcp) (lenOf bSp0_pd rfl) rfl rfl rfl (by decide) (by decide) (ce' := 6) (sl' := 36) rfl rfl (by decide) (by decide) ?_
  rintro _ h_45 σ_46 m_47 ⟨rfl, K_48, S⟩
  replace KT := KT.trans K_48 (by intro z hz; simp only [List.mem_cons, List.not_mem_nil, or_false] at hz; rcases hz with rfl | rfl <;> first | (exact Or.inr (by assumption)) | (simp; done))
  replace uE := uE.keep K_48
  replace us := us.keep K_48 (ninS ne_o_q (ninS ne_o_b nin0))
  replace ue := ue.keep K_48 (ninS ne_o_q (ninS ne_o_b nin0))
  replace uA := uA.keep K_48 (ninS ne_ua_q (ninS ne_ua_b nin0))
  replace vE := vE.keep K_48
  replace vs := vs.keep K_48 (ninS ne_p_q (ninS ne_p_b nin0))
  replace ve := ve.keep K_48 (ninS ne_p_q (ninS ne_p_b nin0))
  replace vA := vA.keep K_48 (ninS ne_va_q (ninS ne_va_b nin0))
  replace T0 := T0.keep K_48 (ninS ne_u0_q (ninS ne_u0_b nin0)) (ninS ne_d0_q (ninS ne_d0_b nin0))
  replace U0 := U0.keep K_48 (ninS ne_v0_q (ninS ne_v0_b nin0)) (ninS ne_w0_q (ninS ne_w0_b nin0))
  replace T1 := T1.keep K_48 (ninS ne_u1_q (ninS ne_u1_b nin0)) (ninS ne_d1_q (ninS ne_d1_b nin0))
  replace U1 := U1.keep K_48 (ninS ne_v1_q (ninS ne_v1_b nin0)) (ninS ne_w1_q (ninS ne_w1_b nin0))
  replace EB := EB.keep K_48
  replace M0 := M0.keep K_48 (ninS (Ne.symm ne_q_ma0) (ninS (Ne.symm ne_b_ma0) nin0)) (ninS (Ne.symm ne_q_mb0) (ninS (Ne.symm ne_b_mb0) nin0))
  replace s_7 := m_47 _ s_7
  replace sb := m_47 _ sb
  refine Road.pop 53 bLab2_d53 ?_
  refine Road.aloadN 54 bLab2_d54 rfl ?_
  refine Road.iloadN 55 bLab2_d55 rfl ?_
  refine Road.callF (B' := bAlG) (a := p) 56 (argsL := [(.int (0 : Int32))]) (rest := []) "java/util/ArrayList" 0 bLab2_d56 (hw _ (List.mem_of_getElem? (i := 219) rfl)) (hw _ (List.mem_of_getElem? (i := 220) rfl)) (hw _ (List.mem_of_getElem? (i := 221) rfl)) (hw _ (List.mem_of_getElem? (i := 222) rfl)) (hw _ (List.mem_of_getElem? (i := 223) rfl)) (hw _ (List.mem_of_getElem? (i := 224) rfl)) (hw _ (List.mem_of_getElem? (i := 225) rfl)) (hw _ (List.mem_of_getElem? (i := 61) rfl)) (hw _ (List.mem_of_getElem? (i := 6) rfl)) (hw _ (List.mem_of_getElem? (i := 226) rfl)) (by decide) (by rfl) vE (cAlG l Z a0 hw n0 hEW p va v0 _ (0 : Int32) (2 : Int32) 0 h_45 σ_46 vE ve vA rfl rfl vs (by decide)) (lenOf bAlG_pd rfl) rfl rfl rfl (by decide) (by decide) (ce' := 6) (sl' := 36) rfl rfl (by decide) (by decide) ?_
  rintro _ h_51 σ_52 m_53 ⟨rfl, rfl⟩
  refine Road.Go.weaken (σ' := σ_46) m_53 (Nat.le_refl _) (Nat.le_refl _) ?_
  refine Road.castYes 61 bLab2_d61 (hw _ (List.mem_of_getElem? (i := 240) rfl)) (Ins.self U0.1) ?_
  refine Road.iconst 64 (1 : Int32) bLab2_d64 rfl ?_
  refine Road.aloadN 65 bLab2_d65 rfl ?_
  refine Road.callS (B' := bXsc) 66 (argsL := [(.ref v0), (.int (1 : Int32)), (.ref q)]) (rest := []) 0 bLab2_d66 (hw _ (List.mem_of_getElem? (i := 242) rfl)) (hw _ (List.mem_of_getElem? (i := 243) rfl)) (hw _ (List.mem_of_getElem? (i := 32) rfl)) (hw _ (List.mem_of_getElem? (i := 244) rfl)) (by decide) (cXsc l Z a0 hw n0 hEW q b ((([] ++ []) ++ [c0]) ++ [61, 34]) 16 v0 w0 hs0 h_45 σ_46 S U0 hl0 (by simp only [List.length_append, List.length_cons, List.length_nil]; omega) s_7 sb ne_v0_q ne_v0_b ne_w0_q ne_w0_b cp Hc hcp fm hfm Hf) (lenOf bXsc_pd rfl) rfl rfl rfl (by decide) (by decide) (ce' := 10) (sl' := 60) rfl rfl (by decide) (by decide) ?_
  rintro _ h_55 σ_56 m_57 ⟨rfl, K_58, S⟩
  replace KT := KT.trans K_58 (by intro z hz; simp only [List.mem_cons, List.not_mem_nil, or_false] at hz; rcases hz with rfl | rfl <;> first | (exact Or.inr (by assumption)) | (simp; done))
  replace uE := uE.keep K_58
  replace us := us.keep K_58 (ninS ne_o_q (ninS ne_o_b nin0))
  replace ue := ue.keep K_58 (ninS ne_o_q (ninS ne_o_b nin0))
  replace uA := uA.keep K_58 (ninS ne_ua_q (ninS ne_ua_b nin0))
  replace vE := vE.keep K_58
  replace vs := vs.keep K_58 (ninS ne_p_q (ninS ne_p_b nin0))
  replace ve := ve.keep K_58 (ninS ne_p_q (ninS ne_p_b nin0))
  replace vA := vA.keep K_58 (ninS ne_va_q (ninS ne_va_b nin0))
  replace T0 := T0.keep K_58 (ninS ne_u0_q (ninS ne_u0_b nin0)) (ninS ne_d0_q (ninS ne_d0_b nin0))
  replace U0 := U0.keep K_58 (ninS ne_v0_q (ninS ne_v0_b nin0)) (ninS ne_w0_q (ninS ne_w0_b nin0))
  replace T1 := T1.keep K_58 (ninS ne_u1_q (ninS ne_u1_b nin0)) (ninS ne_d1_q (ninS ne_d1_b nin0))
  replace U1 := U1.keep K_58 (ninS ne_v1_q (ninS ne_v1_b nin0)) (ninS ne_w1_q (ninS ne_w1_b nin0))
  replace EB := EB.keep K_58
  replace s_7 := m_57 _ s_7
  replace sb := m_57 _ sb
  refine Road.aloadN 69 bLab2_d69 rfl ?_
  refine Road.bipush 70 (34 : Int32) bLab2_d70 rfl ?_
  refine Road.callV (B' := bSc0) (a := q) 72 (argsL := [(.int (34 : Int32))]) (rest := []) "java/lang/StringBuilder" 0 bLab2_d72 (hw _ (List.mem_of_getElem? (i := 246) rfl)) (hw _ (List.mem_of_getElem? (i := 247) rfl)) (fun vm hz => Road.notFace_sib (args := #[]) (mv (s := D.s.setVm vm) hz (hw _ (List.mem_of_getElem? (i := 68) rfl))) rfl) (hw _ (List.mem_of_getElem? (i := 249) rfl)) (hw _ (List.mem_of_getElem? (i := 248) rfl)) (hw _ (List.mem_of_getElem? (i := 36) rfl)) (hw _ (List.mem_of_getElem? (i := 250) rfl)) (by decide) S.1 (cSc0 l Z a0 hw n0 hEW q b (((([] ++ []) ++ [c0]) ++ [61, 34]) ++ escL hs0) 16 34 h_55 σ_56 S (by decide) (by simp only [List.length_append, List.length_cons, List.length_nil]; omega) sb s_7 cp Hc hcp) (lenOf bSc0_pd rfl) rfl rfl rfl (by decide) (by decide) (ce' := 10) (sl' := 60) rfl rfl (by decide) (by decide) ?_
  rintro _ h_61 σ_62 m_63 ⟨rfl, K_64, S⟩
  replace KT := KT.trans K_64 (by intro z hz; simp only [List.mem_cons, List.not_mem_nil, or_false] at hz; rcases hz with rfl | rfl <;> first | (exact Or.inr (by assumption)) | (simp; done))
  replace uE := uE.keep K_64
  replace us := us.keep K_64 (ninS ne_o_q (ninS ne_o_b nin0))
  replace ue := ue.keep K_64 (ninS ne_o_q (ninS ne_o_b nin0))
  replace uA := uA.keep K_64 (ninS ne_ua_q (ninS ne_ua_b nin0))
  replace vE := vE.keep K_64
  replace vs := vs.keep K_64 (ninS ne_p_q (ninS ne_p_b nin0))
  replace ve := ve.keep K_64 (ninS ne_p_q (ninS ne_p_b nin0))
  replace vA := vA.keep K_64 (ninS ne_va_q (ninS ne_va_b nin0))
  replace T0 := T0.keep K_64 (ninS ne_u0_q (ninS ne_u0_b nin0)) (ninS ne_d0_q (ninS ne_d0_b nin0))
  replace U0 := U0.keep K_64 (ninS ne_v0_q (ninS ne_v0_b nin0)) (ninS ne_w0_q (ninS ne_w0_b nin0))
  replace T1 := T1.keep K_64 (ninS ne_u1_q (ninS ne_u1_b nin0)) (ninS ne_d1_q (ninS ne_d1_b nin0))
  replace U1 := U1.keep K_64 (ninS ne_v1_q (ninS ne_v1_b nin0)) (ninS ne_w1_q (ninS ne_w1_b nin0))
  replace EB := EB.keep K_64
  replace s_7 := m_63 _ s_7
  replace sb := m_63 _ sb
  refine Road.pop 75 bLab2_d75 ?_
  refine Road.iinc 76 (1) #[.val (.ref o), .val (.ref p), .val (.ref q), .val (.int ((0 : Int32) + 1))] bLab2_d76 rfl rfl rfl ?_
  refine Road.goto 79 10 bLab2_d79 rfl ?_
  rw [show (0 : Int32) + 1 = 1 from by decide]
  refine Road.iloadN 10 bLab2_d10 rfl ?_
  refine Road.aloadN 11 bLab2_d11 rfl ?_
  refine Road.callF (B' := bAlS) (a := o) 12 (argsL := []) (rest := [(.int (1 : Int32))]) "java/util/ArrayList" 1 bLab2_d12 (hw _ (List.mem_of_getElem? (i := 54) rfl)) (hw _ (List.mem_of_getElem? (i := 55) rfl)) (hw _ (List.mem_of_getElem? (i := 56) rfl)) (hw _ (List.mem_of_getElem? (i := 57) rfl)) (hw _ (List.mem_of_getElem? (i := 58) rfl)) (hw _ (List.mem_of_getElem? (i := 59) rfl)) (hw _ (List.mem_of_getElem? (i := 60) rfl)) (hw _ (List.mem_of_getElem? (i := 61) rfl)) (hw _ (List.mem_of_getElem? (i := 6) rfl)) (hw _ (List.mem_of_getElem? (i := 62) rfl)) (by decide) (by rfl) uE (cAlS l Z a0 hw n0 hEW o 2 h_61 σ_62 us) (lenOf bAlS_pd rfl) rfl rfl rfl (by decide) (by decide) (ce' := 10) (sl' := 60) rfl rfl (by decide) (by decide) ?_
  rintro _ h_67 σ_68 m_69 ⟨rfl, rfl⟩
  refine Road.Go.weaken (σ' := σ_62) m_69 (Nat.le_refl _) (Nat.le_refl _) ?_
  refine Road.icmp_ge 17 82 bLab2_d17 rfl (fun q => absurd q (by decide)) (fun hc17 => ?_)
  refine Road.aloadN 20 bLab2_d20 rfl ?_
  refine Road.iloadN 21 bLab2_d21 rfl ?_
  refine Road.if_ne 22 30 bLab2_d22 rfl (fun hc22 => ?_) (fun q => absurd q (by decide))
  refine Road.ldcS 30 "," [(44 : Int32)] 4 bLab2_d30 (hw _ (List.mem_of_getElem? (i := 281) rfl)) wS (List.mem_of_getElem? (i := 1) rfl) (by decide) (by decide +kernel) (by decide) (by decide) (by decide) (ce' := 12) (sl' := 68) rfl rfl (by decide) (by decide) ?_
  intro la1 lb1 h_71 σ_72 K_73 m_74 L1 q_75
  replace KT := KT.trans K_73 (by simp)
  replace uE := uE.keep K_73
  replace us := us.keep K_73 nin0
  replace ue := ue.keep K_73 nin0
  replace uA := uA.keep K_73 nin0
  replace vE := vE.keep K_73
  replace vs := vs.keep K_73 nin0
  replace ve := ve.keep K_73 nin0
  replace vA := vA.keep K_73 nin0
  replace T0 := T0.keep K_73 nin0 nin0
  replace U0 := U0.keep K_73 nin0 nin0
  replace T1 := T1.keep K_73 nin0 nin0
  replace U1 := U1.keep K_73 nin0 nin0
  replace EB := EB.keep K_73
  replace S := S.keep K_73 nin0 nin0
  replace s_7 := m_74 _ s_7
  replace sb := m_74 _ sb
  have ne_q_la1 : q ≠ la1 := (q_75 q s_7).1
  have ne_q_lb1 : q ≠ lb1 := (q_75 q s_7).2
  have ne_b_la1 : b ≠ la1 := (q_75 b sb).1
  have ne_b_lb1 : b ≠ lb1 := (q_75 b sb).2
  refine Road.callV (B' := bSp0) (a := q) 32 (argsL := [(.ref la1)]) (rest := []) "java/lang/StringBuilder" 0 bLab2_d32 (hw _ (List.mem_of_getElem? (i := 187) rfl)) (hw _ (List.mem_of_getElem? (i := 188) rfl)) (fun vm hz => Road.notFace_sib (args := #[]) (mv (s := D.s.setVm vm) hz (hw _ (List.mem_of_getElem? (i := 68) rfl))) rfl) (hw _ (List.mem_of_getElem? (i := 190) rfl)) (hw _ (List.mem_of_getElem? (i := 189) rfl)) (hw _ (List.mem_of_getElem? (i := 36) rfl)) (hw _ (List.mem_of_getElem? (i := 191) rfl)) (by decide) S.1 (cSp0 l Z a0 hw n0 hEW q b ((((([] ++ []) ++ [c0]) ++ [61, 34]) ++ escL hs0) ++ [34]) 16 la1 lb1 [44] h_71 σ_72 S L1 (by simp only [List.length_append, List.length_cons, List.length_nil]; omega) sb s_7 cp Hc hcp) (lenOf bSp0_pd rfl) rfl rfl rfl (by decide) (by decide) (ce' := 12) (sl' := 68) rfl rfl (by decide) (by decide) ?_
  rintro _ h_76 σ_77 m_78 ⟨rfl, K_79, S⟩
  replace KT := KT.trans K_79 (by intro z hz; simp only [List.mem_cons, List.not_mem_nil, or_false] at hz; rcases hz with rfl | rfl <;> first | (exact Or.inr (by assumption)) | (simp; done))
  replace uE := uE.keep K_79
  replace us := us.keep K_79 (ninS ne_o_q (ninS ne_o_b nin0))
  replace ue := ue.keep K_79 (ninS ne_o_q (ninS ne_o_b nin0))
  replace uA := uA.keep K_79 (ninS ne_ua_q (ninS ne_ua_b nin0))
  replace vE := vE.keep K_79
  replace vs := vs.keep K_79 (ninS ne_p_q (ninS ne_p_b nin0))
  replace ve := ve.keep K_79 (ninS ne_p_q (ninS ne_p_b nin0))
  replace vA := vA.keep K_79 (ninS ne_va_q (ninS ne_va_b nin0))
  replace T0 := T0.keep K_79 (ninS ne_u0_q (ninS ne_u0_b nin0)) (ninS ne_d0_q (ninS ne_d0_b nin0))
  replace U0 := U0.keep K_79 (ninS ne_v0_q (ninS ne_v0_b nin0)) (ninS ne_w0_q (ninS ne_w0_b nin0))
  replace T1 := T1.keep K_79 (ninS ne_u1_q (ninS ne_u1_b nin0)) (ninS ne_d1_q (ninS ne_d1_b nin0))
  replace U1 := U1.keep K_79 (ninS ne_v1_q (ninS ne_v1_b nin0)) (ninS ne_w1_q (ninS ne_w1_b nin0))
  replace EB := EB.keep K_79
  replace L1 := L1.keep K_79 (ninS (Ne.symm ne_q_la1) (ninS (Ne.symm ne_b_la1) nin0)) (ninS (Ne.symm ne_q_lb1) (ninS (Ne.symm ne_b_lb1) nin0))
  replace s_7 := m_78 _ s_7
  replace sb := m_78 _ sb
  refine Road.aloadN 35 bLab2_d35 rfl ?_
  refine Road.iloadN 36 bLab2_d36 rfl ?_
  refine Road.callF (B' := bAlG) (a := o) 37 (argsL := [(.int (1 : Int32))]) (rest := [(.ref q)]) "java/util/ArrayList" 1 bLab2_d37 (hw _ (List.mem_of_getElem? (i := 219) rfl)) (hw _ (List.mem_of_getElem? (i := 220) rfl)) (hw _ (List.mem_of_getElem? (i := 221) rfl)) (hw _ (List.mem_of_getElem? (i := 222) rfl)) (hw _ (List.mem_of_getElem? (i := 223) rfl)) (hw _ (List.mem_of_getElem? (i := 224) rfl)) (hw _ (List.mem_of_getElem? (i := 225) rfl)) (hw _ (List.mem_of_getElem? (i := 61) rfl)) (hw _ (List.mem_of_getElem? (i := 6) rfl)) (hw _ (List.mem_of_getElem? (i := 226) rfl)) (by decide) (by rfl) uE (cAlG l Z a0 hw n0 hEW o ua u1 _ (1 : Int32) (2 : Int32) 1 h_76 σ_77 uE ue uA rfl rfl us (by decide)) (lenOf bAlG_pd rfl) rfl rfl rfl (by decide) (by decide) (ce' := 12) (sl' := 68) rfl rfl (by decide) (by decide) ?_
  rintro _ h_82 σ_83 m_84 ⟨rfl, rfl⟩
  refine Road.Go.weaken (σ' := σ_77) m_84 (Nat.le_refl _) (Nat.le_refl _) ?_
  refine Road.castYes 42 bLab2_d42 (hw _ (List.mem_of_getElem? (i := 240) rfl)) (Ins.self T1.1) ?_
  refine Road.callV (B' := bSp0) (a := q) 45 (argsL := [(.ref u1)]) (rest := []) "java/lang/StringBuilder" 0 bLab2_d45 (hw _ (List.mem_of_getElem? (i := 187) rfl)) (hw _ (List.mem_of_getElem? (i := 188) rfl)) (fun vm hz => Road.notFace_sib (args := #[]) (mv (s := D.s.setVm vm) hz (hw _ (List.mem_of_getElem? (i := 68) rfl))) rfl) (hw _ (List.mem_of_getElem? (i := 190) rfl)) (hw _ (List.mem_of_getElem? (i := 189) rfl)) (hw _ (List.mem_of_getElem? (i := 36) rfl)) (hw _ (List.mem_of_getElem? (i := 191) rfl)) (by decide) S.1 (cSp0 l Z a0 hw n0 hEW q b (((((([] ++ []) ++ [c0]) ++ [61, 34]) ++ escL hs0) ++ [34]) ++ [44]) 16 u1 d1 [c1] h_76 σ_77 S T1 (by simp only [List.length_append, List.length_cons, List.length_nil]; omega) sb s_7 cp Hc hcp) (lenOf bSp0_pd rfl) rfl rfl rfl (by decide) (by decide) (ce' := 12) (sl' := 68) rfl rfl (by decide) (by decide) ?_
  rintro _ h_86 σ_87 m_88 ⟨rfl, K_89, S⟩
  replace KT := KT.trans K_89 (by intro z hz; simp only [List.mem_cons, List.not_mem_nil, or_false] at hz; rcases hz with rfl | rfl <;> first | (exact Or.inr (by assumption)) | (simp; done))
  replace uE := uE.keep K_89
  replace us := us.keep K_89 (ninS ne_o_q (ninS ne_o_b nin0))
  replace ue := ue.keep K_89 (ninS ne_o_q (ninS ne_o_b nin0))
  replace uA := uA.keep K_89 (ninS ne_ua_q (ninS ne_ua_b nin0))
  replace vE := vE.keep K_89
  replace vs := vs.keep K_89 (ninS ne_p_q (ninS ne_p_b nin0))
  replace ve := ve.keep K_89 (ninS ne_p_q (ninS ne_p_b nin0))
  replace vA := vA.keep K_89 (ninS ne_va_q (ninS ne_va_b nin0))
  replace T0 := T0.keep K_89 (ninS ne_u0_q (ninS ne_u0_b nin0)) (ninS ne_d0_q (ninS ne_d0_b nin0))
  replace U0 := U0.keep K_89 (ninS ne_v0_q (ninS ne_v0_b nin0)) (ninS ne_w0_q (ninS ne_w0_b nin0))
  replace T1 := T1.keep K_89 (ninS ne_u1_q (ninS ne_u1_b nin0)) (ninS ne_d1_q (ninS ne_d1_b nin0))
  replace U1 := U1.keep K_89 (ninS ne_v1_q (ninS ne_v1_b nin0)) (ninS ne_w1_q (ninS ne_w1_b nin0))
  replace EB := EB.keep K_89
  replace s_7 := m_88 _ s_7
  replace sb := m_88 _ sb
  refine Road.ldcS 48 "=\"" [(61 : Int32), (34 : Int32)] 8 bLab2_d48 (hw _ (List.mem_of_getElem? (i := 241) rfl)) wS (List.mem_of_getElem? (i := 2) rfl) (by decide) (by decide +kernel) (by decide) (by decide) (by decide) (ce' := 14) (sl' := 80) rfl rfl (by decide) (by decide) ?_
  intro ma1 mb1 h_92 σ_93 K_94 m_95 M1 q_96
  replace KT := KT.trans K_94 (by simp)
  replace uE := uE.keep K_94
  replace us := us.keep K_94 nin0
  replace ue := ue.keep K_94 nin0
  replace uA := uA.keep K_94 nin0
  replace vE := vE.keep K_94
  replace vs := vs.keep K_94 nin0
  replace ve := ve.keep K_94 nin0
  replace vA := vA.keep K_94 nin0
  replace T0 := T0.keep K_94 nin0 nin0
  replace U0 := U0.keep K_94 nin0 nin0
  replace T1 := T1.keep K_94 nin0 nin0
  replace U1 := U1.keep K_94 nin0 nin0
  replace EB := EB.keep K_94
  replace S := S.keep K_94 nin0 nin0
  replace s_7 := m_95 _ s_7
  replace sb := m_95 _ sb
  have ne_q_ma1 : q ≠ ma1 := (q_96 q s_7).1
  have ne_q_mb1 : q ≠ mb1 := (q_96 q s_7).2
  have ne_b_ma1 : b ≠ ma1 := (q_96 b sb).1
  have ne_b_mb1 : b ≠ mb1 := (q_96 b sb).2
  refine Road.callV (B' := bSp0) (a := q) 50 (argsL := [(.ref ma1)]) (rest := []) "java/lang/StringBuilder" 0 bLab2_d50 (hw _ (List.mem_of_getElem? (i := 187) rfl)) (hw _ (List.mem_of_getElem? (i := 188) rfl)) (fun vm hz => Road.notFace_sib (args := #[]) (mv (s := D.s.setVm vm) hz (hw _ (List.mem_of_getElem? (i := 68) rfl))) rfl) (hw _ (List.mem_of_getElem? (i := 190) rfl)) (hw _ (List.mem_of_getElem? (i := 189) rfl)) (hw _ (List.mem_of_getElem? (i := 36) rfl)) (hw _ (List.mem_of_getElem? (i := 191) rfl)) (by decide) S.1 (cSp0 l Z a0 hw n0 hEW q b ((((((([] ++ []) ++ [c0]) ++ [61, 34]) ++ escL hs0) ++ [34]) ++ [44]) ++ [c1]) 16 ma1 mb1 [61, 34] h_92 σ_93 S M1 (by simp only [List.length_append, List.length_cons, List.length_nil]; omega) sb s_7 cp Hc hcp) (lenOf bSp0_pd rfl) rfl rfl rfl (by decide) (by decide) (ce' := 14) (sl' := 80) rfl rfl (by decide) (by decide) ?_
  rintro _ h_97 σ_98 m_99 ⟨rfl, K_100, S⟩
  replace KT := KT.trans K_100 (by intro z hz; simp only [List.mem_cons, List.not_mem_nil, or_false] at hz; rcases hz with rfl | rfl <;> first | (exact Or.inr (by assumption)) | (simp; done))
  replace uE := uE.keep K_100
  replace us := us.keep K_100 (ninS ne_o_q (ninS ne_o_b nin0))
  replace ue := ue.keep K_100 (ninS ne_o_q (ninS ne_o_b nin0))
  replace uA := uA.keep K_100 (ninS ne_ua_q (ninS ne_ua_b nin0))
  replace vE := vE.keep K_100
  replace vs := vs.keep K_100 (ninS ne_p_q (ninS ne_p_b nin0))
  replace ve := ve.keep K_100 (ninS ne_p_q (ninS ne_p_b nin0))
  replace vA := vA.keep K_100 (ninS ne_va_q (ninS ne_va_b nin0))
  replace T0 := T0.keep K_100 (ninS ne_u0_q (ninS ne_u0_b nin0)) (ninS ne_d0_q (ninS ne_d0_b nin0))
  replace U0 := U0.keep K_100 (ninS ne_v0_q (ninS ne_v0_b nin0)) (ninS ne_w0_q (ninS ne_w0_b nin0))
  replace T1 := T1.keep K_100 (ninS ne_u1_q (ninS ne_u1_b nin0)) (ninS ne_d1_q (ninS ne_d1_b nin0))
  replace U1 := U1.keep K_100 (ninS ne_v1_q (ninS ne_v1_b nin0)) (ninS ne_w1_q (ninS ne_w1_b nin0))
  replace EB := EB.keep K_100
  replace M1 := M1.keep K_100 (ninS (Ne.symm ne_q_ma1) (ninS (Ne.symm ne_b_ma1) nin0)) (ninS (Ne.symm ne_q_mb1) (ninS (Ne.symm ne_b_mb1) nin0))
  replace s_7 := m_99 _ s_7
  replace sb := m_99 _ sb
  refine Road.pop 53 bLab2_d53 ?_
  refine Road.aloadN 54 bLab2_d54 rfl ?_
  refine Road.iloadN 55 bLab2_d55 rfl ?_
  refine Road.callF (B' := bAlG) (a := p) 56 (argsL := [(.int (1 : Int32))]) (rest := []) "java/util/ArrayList" 0 bLab2_d56 (hw _ (List.mem_of_getElem? (i := 219) rfl)) (hw _ (List.mem_of_getElem? (i := 220) rfl)) (hw _ (List.mem_of_getElem? (i := 221) rfl)) (hw _ (List.mem_of_getElem? (i := 222) rfl)) (hw _ (List.mem_of_getElem? (i := 223) rfl)) (hw _ (List.mem_of_getElem? (i := 224) rfl)) (hw _ (List.mem_of_getElem? (i := 225) rfl)) (hw _ (List.mem_of_getElem? (i := 61) rfl)) (hw _ (List.mem_of_getElem? (i := 6) rfl)) (hw _ (List.mem_of_getElem? (i := 226) rfl)) (by decide) (by rfl) vE (cAlG l Z a0 hw n0 hEW p va v1 _ (1 : Int32) (2 : Int32) 1 h_97 σ_98 vE ve vA rfl rfl vs (by decide)) (lenOf bAlG_pd rfl) rfl rfl rfl (by decide) (by decide) (ce' := 14) (sl' := 80) rfl rfl (by decide) (by decide) ?_
  rintro _ h_103 σ_104 m_105 ⟨rfl, rfl⟩
  refine Road.Go.weaken (σ' := σ_98) m_105 (Nat.le_refl _) (Nat.le_refl _) ?_
  refine Road.castYes 61 bLab2_d61 (hw _ (List.mem_of_getElem? (i := 240) rfl)) (Ins.self U1.1) ?_
  refine Road.iconst 64 (1 : Int32) bLab2_d64 rfl ?_
  refine Road.aloadN 65 bLab2_d65 rfl ?_
  refine Road.callS (B' := bXsc) 66 (argsL := [(.ref v1), (.int (1 : Int32)), (.ref q)]) (rest := []) 0 bLab2_d66 (hw _ (List.mem_of_getElem? (i := 242) rfl)) (hw _ (List.mem_of_getElem? (i := 243) rfl)) (hw _ (List.mem_of_getElem? (i := 32) rfl)) (hw _ (List.mem_of_getElem? (i := 244) rfl)) (by decide) (cXsc l Z a0 hw n0 hEW q b (((((((([] ++ []) ++ [c0]) ++ [61, 34]) ++ escL hs0) ++ [34]) ++ [44]) ++ [c1]) ++ [61, 34]) 16 v1 w1 hs1 h_97 σ_98 S U1 hl1 (by simp only [List.length_append, List.length_cons, List.length_nil]; omega) s_7 sb ne_v1_q ne_v1_b ne_w1_q ne_w1_b cp Hc hcp fm hfm Hf) (lenOf bXsc_pd rfl) rfl rfl rfl (by decide) (by decide) (ce' := 18) (sl' := 104) rfl rfl (by decide) (by decide) ?_
  rintro _ h_107 σ_108 m_109 ⟨rfl, K_110, S⟩
  replace KT := KT.trans K_110 (by intro z hz; simp only [List.mem_cons, List.not_mem_nil, or_false] at hz; rcases hz with rfl | rfl <;> first | (exact Or.inr (by assumption)) | (simp; done))
  replace uE := uE.keep K_110
  replace us := us.keep K_110 (ninS ne_o_q (ninS ne_o_b nin0))
  replace ue := ue.keep K_110 (ninS ne_o_q (ninS ne_o_b nin0))
  replace uA := uA.keep K_110 (ninS ne_ua_q (ninS ne_ua_b nin0))
  replace vE := vE.keep K_110
  replace vs := vs.keep K_110 (ninS ne_p_q (ninS ne_p_b nin0))
  replace ve := ve.keep K_110 (ninS ne_p_q (ninS ne_p_b nin0))
  replace vA := vA.keep K_110 (ninS ne_va_q (ninS ne_va_b nin0))
  replace T0 := T0.keep K_110 (ninS ne_u0_q (ninS ne_u0_b nin0)) (ninS ne_d0_q (ninS ne_d0_b nin0))
  replace U0 := U0.keep K_110 (ninS ne_v0_q (ninS ne_v0_b nin0)) (ninS ne_w0_q (ninS ne_w0_b nin0))
  replace T1 := T1.keep K_110 (ninS ne_u1_q (ninS ne_u1_b nin0)) (ninS ne_d1_q (ninS ne_d1_b nin0))
  replace U1 := U1.keep K_110 (ninS ne_v1_q (ninS ne_v1_b nin0)) (ninS ne_w1_q (ninS ne_w1_b nin0))
  replace EB := EB.keep K_110
  replace s_7 := m_109 _ s_7
  replace sb := m_109 _ sb
  refine Road.aloadN 69 bLab2_d69 rfl ?_
  refine Road.bipush 70 (34 : Int32) bLab2_d70 rfl ?_
  by_cases h17 : ((((((((([] ++ []) ++ [c0]) ++ [61, 34]) ++ escL hs0) ++ [34]) ++ [44]) ++ [c1]) ++ [61, 34]) ++ escL hs1).length + 1 ≤ 16
  · skip
    refine Road.callV (B' := bSc0) (a := q) 72 (argsL := [(.int (34 : Int32))]) (rest := []) "java/lang/StringBuilder" 0 bLab2_d72 (hw _ (List.mem_of_getElem? (i := 246) rfl)) (hw _ (List.mem_of_getElem? (i := 247) rfl)) (fun vm hz => Road.notFace_sib (args := #[]) (mv (s := D.s.setVm vm) hz (hw _ (List.mem_of_getElem? (i := 68) rfl))) rfl) (hw _ (List.mem_of_getElem? (i := 249) rfl)) (hw _ (List.mem_of_getElem? (i := 248) rfl)) (hw _ (List.mem_of_getElem? (i := 36) rfl)) (hw _ (List.mem_of_getElem? (i := 250) rfl)) (by decide) S.1 (cSc0 l Z a0 hw n0 hEW q b ((((((((([] ++ []) ++ [c0]) ++ [61, 34]) ++ escL hs0) ++ [34]) ++ [44]) ++ [c1]) ++ [61, 34]) ++ escL hs1) 16 34 h_107 σ_108 S (by decide) h17 sb s_7 cp Hc hcp) (lenOf bSc0_pd rfl) rfl rfl rfl (by decide) (by decide) (ce' := 18) (sl' := 104) rfl rfl (by decide) (by decide) ?_
    rintro _ h_113 σ_114 m_115 ⟨rfl, K_116, S⟩
    replace KT := KT.trans K_116 (by intro z hz; simp only [List.mem_cons, List.not_mem_nil, or_false] at hz; rcases hz with rfl | rfl <;> first | (exact Or.inr (by assumption)) | (simp; done))
    replace uE := uE.keep K_116
    replace us := us.keep K_116 (ninS ne_o_q (ninS ne_o_b nin0))
    replace ue := ue.keep K_116 (ninS ne_o_q (ninS ne_o_b nin0))
    replace uA := uA.keep K_116 (ninS ne_ua_q (ninS ne_ua_b nin0))
    replace vE := vE.keep K_116
    replace vs := vs.keep K_116 (ninS ne_p_q (ninS ne_p_b nin0))
    replace ve := ve.keep K_116 (ninS ne_p_q (ninS ne_p_b nin0))
    replace vA := vA.keep K_116 (ninS ne_va_q (ninS ne_va_b nin0))
    replace T0 := T0.keep K_116 (ninS ne_u0_q (ninS ne_u0_b nin0)) (ninS ne_d0_q (ninS ne_d0_b nin0))
    replace U0 := U0.keep K_116 (ninS ne_v0_q (ninS ne_v0_b nin0)) (ninS ne_w0_q (ninS ne_w0_b nin0))
    replace T1 := T1.keep K_116 (ninS ne_u1_q (ninS ne_u1_b nin0)) (ninS ne_d1_q (ninS ne_d1_b nin0))
    replace U1 := U1.keep K_116 (ninS ne_v1_q (ninS ne_v1_b nin0)) (ninS ne_w1_q (ninS ne_w1_b nin0))
    replace EB := EB.keep K_116
    replace s_7 := m_115 _ s_7
    replace sb := m_115 _ sb
    refine Road.pop 75 bLab2_d75 ?_
    refine Road.iinc 76 (1) #[.val (.ref o), .val (.ref p), .val (.ref q), .val (.int ((1 : Int32) + 1))] bLab2_d76 rfl rfl rfl ?_
    refine Road.goto 79 10 bLab2_d79 rfl ?_
    rw [show (1 : Int32) + 1 = 2 from by decide]
    have hll : (((((((((([] ++ []) ++ [c0]) ++ [61, 34]) ++ escL hs0) ++ [34]) ++ [44]) ++ [c1]) ++ [61, 34]) ++ escL hs1) ++ [34]).length = ((((((((([] ++ []) ++ [c0]) ++ [61, 34]) ++ escL hs0) ++ [34]) ++ [44]) ++ [c1]) ++ [61, 34]) ++ escL hs1).length + 1 := by rw [List.length_append]; rfl
    rcases Nat.lt_or_ge (((((((((([] ++ []) ++ [c0]) ++ [61, 34]) ++ escL hs0) ++ [34]) ++ [44]) ++ [c1]) ++ [61, 34]) ++ escL hs1) ++ [34]).length 16 with hlq | hlq
    · skip
      refine Road.iloadN 10 bLab2_d10 rfl ?_
      refine Road.aloadN 11 bLab2_d11 rfl ?_
      refine Road.callF (B' := bAlS) (a := o) 12 (argsL := []) (rest := [(.int (2 : Int32))]) "java/util/ArrayList" 1 bLab2_d12 (hw _ (List.mem_of_getElem? (i := 54) rfl)) (hw _ (List.mem_of_getElem? (i := 55) rfl)) (hw _ (List.mem_of_getElem? (i := 56) rfl)) (hw _ (List.mem_of_getElem? (i := 57) rfl)) (hw _ (List.mem_of_getElem? (i := 58) rfl)) (hw _ (List.mem_of_getElem? (i := 59) rfl)) (hw _ (List.mem_of_getElem? (i := 60) rfl)) (hw _ (List.mem_of_getElem? (i := 61) rfl)) (hw _ (List.mem_of_getElem? (i := 6) rfl)) (hw _ (List.mem_of_getElem? (i := 62) rfl)) (by decide) (by rfl) uE (cAlS l Z a0 hw n0 hEW o 2 h_113 σ_114 us) (lenOf bAlS_pd rfl) rfl rfl rfl (by decide) (by decide) (ce' := 18) (sl' := 104) rfl rfl (by decide) (by decide) ?_
      rintro _ h_119 σ_120 m_121 ⟨rfl, rfl⟩
      refine Road.Go.weaken (σ' := σ_114) m_121 (Nat.le_refl _) (Nat.le_refl _) ?_
      refine Road.icmp_ge 17 82 bLab2_d17 rfl (fun hc17 => ?_) (fun q => absurd q (by decide))
      refine Road.aloadN 82 bLab2_d82 rfl ?_
      have ee : (((((((((([] ++ []) ++ [c0]) ++ [61, 34]) ++ escL hs0) ++ [34]) ++ [44]) ++ [c1]) ++ [61, 34]) ++ escL hs1) ++ [34]) = (labL true c0 hs0 ++ labL false c1 hs1) := by simp [labL]
      refine Road.callV (B' := bToS) (a := q) 83 (argsL := []) (rest := []) "java/lang/StringBuilder" 0 bLab2_d83 (hw _ (List.mem_of_getElem? (i := 65) rfl)) (hw _ (List.mem_of_getElem? (i := 66) rfl)) (fun vm hz => Road.notFace_sib (args := #[]) (mv (s := D.s.setVm vm) hz (hw _ (List.mem_of_getElem? (i := 68) rfl))) rfl) (hw _ (List.mem_of_getElem? (i := 68) rfl)) (hw _ (List.mem_of_getElem? (i := 67) rfl)) (hw _ (List.mem_of_getElem? (i := 36) rfl)) (hw _ (List.mem_of_getElem? (i := 69) rfl)) (by decide) S.1 (cToS l Z a0 hw n0 hEW q b (((((((((([] ++ []) ++ [c0]) ++ [61, 34]) ++ escL hs0) ++ [34]) ++ [44]) ++ [c1]) ++ [61, 34]) ++ escL hs1) ++ [34]) 16 h_113 σ_114 S hlq (by simp only [List.length_append, List.length_cons, List.length_nil]; omega) cp Hc hcp) (lenOf bToS_pd rfl) rfl rfl rfl (by decide) (by decide) (ce' := 20) (sl' := 125) rfl rfl (by decide) (by decide) ?_
      rintro _ h_123 σ_124 m_125 ⟨r, rd, rfl, gr, grd, K_126, T⟩
      replace KT := KT.trans K_126 (by simp)
      replace s_7 := m_125 _ s_7
      replace sb := m_125 _ sb
      rw [ee] at T
      exact Road.aret 86 bLab2_d86 (t := (.object "java/lang/String")) rfl rfl rfl (by decide) (by decide) (fun σ' m => ⟨r, rd, rfl, KT, T⟩)
    · skip
      have hlq : (((((((((([] ++ []) ++ [c0]) ++ [61, 34]) ++ escL hs0) ++ [34]) ++ [44]) ++ [c1]) ++ [61, 34]) ++ escL hs1) ++ [34]).length = 16 := by omega
      refine Road.iloadN 10 bLab2_d10 rfl ?_
      refine Road.aloadN 11 bLab2_d11 rfl ?_
      refine Road.callF (B' := bAlS) (a := o) 12 (argsL := []) (rest := [(.int (2 : Int32))]) "java/util/ArrayList" 1 bLab2_d12 (hw _ (List.mem_of_getElem? (i := 54) rfl)) (hw _ (List.mem_of_getElem? (i := 55) rfl)) (hw _ (List.mem_of_getElem? (i := 56) rfl)) (hw _ (List.mem_of_getElem? (i := 57) rfl)) (hw _ (List.mem_of_getElem? (i := 58) rfl)) (hw _ (List.mem_of_getElem? (i := 59) rfl)) (hw _ (List.mem_of_getElem? (i := 60) rfl)) (hw _ (List.mem_of_getElem? (i := 61) rfl)) (hw _ (List.mem_of_getElem? (i := 6) rfl)) (hw _ (List.mem_of_getElem? (i := 62) rfl)) (by decide) (by rfl) uE (cAlS l Z a0 hw n0 hEW o 2 h_113 σ_114 us) (lenOf bAlS_pd rfl) rfl rfl rfl (by decide) (by decide) (ce' := 18) (sl' := 104) rfl rfl (by decide) (by decide) ?_
      rintro _ h_129 σ_130 m_131 ⟨rfl, rfl⟩
      refine Road.Go.weaken (σ' := σ_114) m_131 (Nat.le_refl _) (Nat.le_refl _) ?_
      refine Road.icmp_ge 17 82 bLab2_d17 rfl (fun hc17 => ?_) (fun q => absurd q (by decide))
      refine Road.aloadN 82 bLab2_d82 rfl ?_
      have ee : (((((((((([] ++ []) ++ [c0]) ++ [61, 34]) ++ escL hs0) ++ [34]) ++ [44]) ++ [c1]) ++ [61, 34]) ++ escL hs1) ++ [34]) = (labL true c0 hs0 ++ labL false c1 hs1) := by simp [labL]
      refine Road.callV (B' := bEoS) (a := q) 83 (argsL := []) (rest := []) "java/lang/StringBuilder" 0 bLab2_d83 (hw _ (List.mem_of_getElem? (i := 65) rfl)) (hw _ (List.mem_of_getElem? (i := 66) rfl)) (fun vm hz => Road.notFace_sib (args := #[]) (mv (s := D.s.setVm vm) hz (hw _ (List.mem_of_getElem? (i := 68) rfl))) rfl) (hw _ (List.mem_of_getElem? (i := 68) rfl)) (hw _ (List.mem_of_getElem? (i := 67) rfl)) (hw _ (List.mem_of_getElem? (i := 36) rfl)) (hw _ (List.mem_of_getElem? (i := 69) rfl)) (by decide) S.1 (cEoS l Z a0 hw n0 hEW q b (((((((((([] ++ []) ++ [c0]) ++ [61, 34]) ++ escL hs0) ++ [34]) ++ [44]) ++ [c1]) ++ [61, 34]) ++ escL hs1) ++ [34]) 16 h_113 σ_114 S EB hlq (by rw [hlq]; decide) cp Hc hcp) (lenOf bEoS_pd rfl) rfl rfl rfl (by decide) (by decide) (ce' := 20) (sl' := 124) rfl rfl (by decide) (by decide) ?_
      rintro _ h_133 σ_134 m_135 ⟨r, rd, rfl, gr, grd, K_136, T⟩
      replace KT := KT.trans K_136 (by simp)
      replace s_7 := m_135 _ s_7
      replace sb := m_135 _ sb
      rw [ee] at T
      exact Road.aret 86 bLab2_d86 (t := (.object "java/lang/String")) rfl rfl rfl (by decide) (by decide) (fun σ' m => ⟨r, rd, rfl, KT, T⟩)
  · skip
    have h20 : ((((((((([] ++ []) ++ [c0]) ++ [61, 34]) ++ escL hs0) ++ [34]) ++ [44]) ++ [c1]) ++ [61, 34]) ++ escL hs1).length ≤ 16 := (by simp only [List.length_append, List.length_cons, List.length_nil]; omega)
    have hmx : max (((((((((([] ++ []) ++ [c0]) ++ [61, 34]) ++ escL hs0) ++ [34]) ++ [44]) ++ [c1]) ++ [61, 34]) ++ escL hs1).length + 1) (2 * 16 + 2) = 34 := by omega
    refine Road.callV (B' := bScG) (a := q) 72 (argsL := [(.int (34 : Int32))]) (rest := []) "java/lang/StringBuilder" 0 bLab2_d72 (hw _ (List.mem_of_getElem? (i := 246) rfl)) (hw _ (List.mem_of_getElem? (i := 247) rfl)) (fun vm hz => Road.notFace_sib (args := #[]) (mv (s := D.s.setVm vm) hz (hw _ (List.mem_of_getElem? (i := 68) rfl))) rfl) (hw _ (List.mem_of_getElem? (i := 249) rfl)) (hw _ (List.mem_of_getElem? (i := 248) rfl)) (hw _ (List.mem_of_getElem? (i := 36) rfl)) (hw _ (List.mem_of_getElem? (i := 250) rfl)) (by decide) S.1 (cScG l Z a0 hw n0 hEW q b ((((((((([] ++ []) ++ [c0]) ++ [61, 34]) ++ escL hs0) ++ [34]) ++ [44]) ++ [c1]) ++ [61, 34]) ++ escL hs1) 16 34 h_107 σ_108 S (by decide) (by omega) (by omega) s_7 cp Hc hcp) (lenOf bScG_pd rfl) rfl rfl rfl (by decide) (by decide) (ce' := 19) (sl' := 138) rfl rfl (by decide) (by decide) ?_
    rintro _ h_139 σ_140 m_141 ⟨rfl, K_142, d, S, gd, sd⟩
    replace KT := KT.trans K_142 (by intro z hz; simp only [List.mem_cons, List.not_mem_nil, or_false] at hz; rcases hz with rfl <;> first | (exact Or.inr (by assumption)) | (simp; done))
    replace uE := uE.keep K_142
    replace us := us.keep K_142 (ninS ne_o_q nin0)
    replace ue := ue.keep K_142 (ninS ne_o_q nin0)
    replace uA := uA.keep K_142 (ninS ne_ua_q nin0)
    replace vE := vE.keep K_142
    replace vs := vs.keep K_142 (ninS ne_p_q nin0)
    replace ve := ve.keep K_142 (ninS ne_p_q nin0)
    replace vA := vA.keep K_142 (ninS ne_va_q nin0)
    replace T0 := T0.keep K_142 (ninS ne_u0_q nin0) (ninS ne_d0_q nin0)
    replace U0 := U0.keep K_142 (ninS ne_v0_q nin0) (ninS ne_w0_q nin0)
    replace T1 := T1.keep K_142 (ninS ne_u1_q nin0) (ninS ne_d1_q nin0)
    replace U1 := U1.keep K_142 (ninS ne_v1_q nin0) (ninS ne_w1_q nin0)
    replace EB := EB.keep K_142
    replace s_7 := m_141 _ s_7
    replace sb := m_141 _ sb
    rw [hmx] at S
    refine Road.pop 75 bLab2_d75 ?_
    refine Road.iinc 76 (1) #[.val (.ref o), .val (.ref p), .val (.ref q), .val (.int ((1 : Int32) + 1))] bLab2_d76 rfl rfl rfl ?_
    refine Road.goto 79 10 bLab2_d79 rfl ?_
    rw [show (1 : Int32) + 1 = 2 from by decide]
    refine Road.iloadN 10 bLab2_d10 rfl ?_
    refine Road.aloadN 11 bLab2_d11 rfl ?_
    refine Road.callF (B' := bAlS) (a := o) 12 (argsL := []) (rest := [(.int (2 : Int32))]) "java/util/ArrayList" 1 bLab2_d12 (hw _ (List.mem_of_getElem? (i := 54) rfl)) (hw _ (List.mem_of_getElem? (i := 55) rfl)) (hw _ (List.mem_of_getElem? (i := 56) rfl)) (hw _ (List.mem_of_getElem? (i := 57) rfl)) (hw _ (List.mem_of_getElem? (i := 58) rfl)) (hw _ (List.mem_of_getElem? (i := 59) rfl)) (hw _ (List.mem_of_getElem? (i := 60) rfl)) (hw _ (List.mem_of_getElem? (i := 61) rfl)) (hw _ (List.mem_of_getElem? (i := 6) rfl)) (hw _ (List.mem_of_getElem? (i := 62) rfl)) (by decide) (by rfl) uE (cAlS l Z a0 hw n0 hEW o 2 h_139 σ_140 us) (lenOf bAlS_pd rfl) rfl rfl rfl (by decide) (by decide) (ce' := 19) (sl' := 138) rfl rfl (by decide) (by decide) ?_
    rintro _ h_145 σ_146 m_147 ⟨rfl, rfl⟩
    refine Road.Go.weaken (σ' := σ_140) m_147 (Nat.le_refl _) (Nat.le_refl _) ?_
    refine Road.icmp_ge 17 82 bLab2_d17 rfl (fun hc17 => ?_) (fun q => absurd q (by decide))
    refine Road.aloadN 82 bLab2_d82 rfl ?_
    have ee : (((((((((([] ++ []) ++ [c0]) ++ [61, 34]) ++ escL hs0) ++ [34]) ++ [44]) ++ [c1]) ++ [61, 34]) ++ escL hs1) ++ [34]) = (labL true c0 hs0 ++ labL false c1 hs1) := by simp [labL]
    refine Road.callV (B' := bToS) (a := q) 83 (argsL := []) (rest := []) "java/lang/StringBuilder" 0 bLab2_d83 (hw _ (List.mem_of_getElem? (i := 65) rfl)) (hw _ (List.mem_of_getElem? (i := 66) rfl)) (fun vm hz => Road.notFace_sib (args := #[]) (mv (s := D.s.setVm vm) hz (hw _ (List.mem_of_getElem? (i := 68) rfl))) rfl) (hw _ (List.mem_of_getElem? (i := 68) rfl)) (hw _ (List.mem_of_getElem? (i := 67) rfl)) (hw _ (List.mem_of_getElem? (i := 36) rfl)) (hw _ (List.mem_of_getElem? (i := 69) rfl)) (by decide) S.1 (cToS l Z a0 hw n0 hEW q d (((((((((([] ++ []) ++ [c0]) ++ [61, 34]) ++ escL hs0) ++ [34]) ++ [44]) ++ [c1]) ++ [61, 34]) ++ escL hs1) ++ [34]) 34 h_139 σ_140 S (by simp only [List.length_append, List.length_cons, List.length_nil]; omega) (by simp only [List.length_append, List.length_cons, List.length_nil]; omega) cp Hc hcp) (lenOf bToS_pd rfl) rfl rfl rfl (by decide) (by decide) (ce' := 21) (sl' := 159) rfl rfl (by decide) (by decide) ?_
    rintro _ h_149 σ_150 m_151 ⟨r, rd, rfl, gr, grd, K_152, T⟩
    replace KT := KT.trans K_152 (by simp)
    replace s_7 := m_151 _ s_7
    replace sb := m_151 _ sb
    rw [ee] at T
    exact Road.aret 86 bLab2_d86 (t := (.object "java/lang/String")) rfl rfl rfl (by decide) (by decide) (fun σ' m => ⟨r, rd, rfl, KT, T⟩)
def bAt : Road.Bdy := (⟨"com/example/meerkat/meerkat/metrics/ExpositionLabelsPinLaw", "at", "(Ljava/lang/String;[CII)Z"⟩, method_3_code, 4, (some .boolean), { frames := 4, cells := 0, slots := 0, locals := 53 })
theorem bAt_d0 : decode bAt.bs 0 = .ok (.iload_n 2, 1) := by decide +kernel
theorem bAt_d1 : decode bAt.bs 1 = .ok (.iload_n 3, 1) := by decide +kernel
theorem bAt_d2 : decode bAt.bs 2 = .ok (.if_icmp .ge 14, 3) := by decide +kernel
theorem bAt_d5 : decode bAt.bs 5 = .ok (.aload_n 0, 1) := by decide +kernel
theorem bAt_d6 : decode bAt.bs 6 = .ok (.iload_n 2, 1) := by decide +kernel
theorem bAt_d7 : decode bAt.bs 7 = .ok (.invokevirtual 48, 3) := by decide +kernel
theorem bAt_d10 : decode bAt.bs 10 = .ok (.aload_n 1, 1) := by decide +kernel
theorem bAt_d11 : decode bAt.bs 11 = .ok (.iload_n 2, 1) := by decide +kernel
theorem bAt_d12 : decode bAt.bs 12 = .ok (.caload, 1) := by decide +kernel
theorem bAt_d13 : decode bAt.bs 13 = .ok (.if_icmp .ne 7, 3) := by decide +kernel
theorem bAt_d16 : decode bAt.bs 16 = .ok (.iconst 1, 1) := by decide +kernel
theorem bAt_d17 : decode bAt.bs 17 = .ok (.goto 4, 3) := by decide +kernel
theorem bAt_d20 : decode bAt.bs 20 = .ok (.iconst 0, 1) := by decide +kernel
theorem bAt_d21 : decode bAt.bs 21 = .ok (.ireturn, 1) := by decide +kernel
theorem bAt_pd : parseMethodDescriptor "(Ljava/lang/String;[CII)Z" = some ⟨[(.object "java/lang/String"), (.array .char), .int, .int], (some .boolean)⟩ := by decide +kernel
theorem bAt_pn : plainFor bAt.y = true := plainFor_of_name (show plainName "com/example/meerkat/meerkat/metrics/ExpositionLabelsPinLaw" = true from by first | (simp [plainName, overriddenIn]; done) | decide +kernel)
theorem cAt (l : Launch) (Z : State) (a0 : Array Value) (hw : ∀ d ∈ tables_1, d.before a0 Z = true) (n0 : Nat) (hEW : EW Z a0 consts_1) (r rd t : Addr) (L : List Int32) (i : Nat) (h0 : Heap) (σ : Addr → Prop) (T : Road.Str Z h0 r rd L) (F : Buf Z h0 t L) (hi : i < 100) (cp : Int32) (Hc : Sta Z Z.heap Road.SN "COMPACT_STRINGS" "Z" (.int cp)) (hcp : ¬ cp = 0) (fm : Value) (hfm : fm.isRef = true) (Hf : Sta Z Z.heap "jdk/internal/util/Preconditions" "SIOOBE_FORMATTER" "Ljava/util/function/BiFunction;" fm) :
    Road.Con l Z consts_1 n0 false bAt [] σ #[(.ref r), (.ref t), (.int (Nat.toInt32 i)), (.int (Nat.toInt32 L.length))] h0 (fun v h2 _ => v = some (.int 1) ∧ h0 = h2) := by
  obtain ⟨x, A, hx⟩ := F
  refine Road.Con.of bAt_pn hEW #[.val (.ref r), .val (.ref t), .val (.int (Nat.toInt32 i)), .val (.int (Nat.toInt32 L.length))] (fun m => Road.ent (Road.laid1 rfl (Road.laid1 rfl (Road.laid1 rfl (Road.laid1 rfl Road.laid0)))) (k := 0) rfl rfl) ?_
  intro D hD
  refine Road.iloadN 0 bAt_d0 rfl ?_
  refine Road.iloadN 1 bAt_d1 rfl ?_
  refine Road.icmp_ge 2 16 bAt_d2 rfl (fun hc2 => ?_) (fun hc2 => ?_)
  · skip
    refine Road.iconst 16 (1 : Int32) bAt_d16 rfl ?_
    refine Road.goto 17 21 bAt_d17 rfl ?_
    exact Road.iret 21 1 bAt_d21 (t := .boolean) rfl (by simp) rfl (by decide) (by decide) (fun σ' m => ⟨rfl, rfl⟩)
  · skip
    rw [Road.lt32 (by omega) (by omega)] at hc2
    refine Road.aloadN 5 bAt_d5 rfl ?_
    refine Road.iloadN 6 bAt_d6 rfl ?_
    refine Road.callV (B' := bChA) (a := r) 7 (argsL := [(.int (Nat.toInt32 i))]) (rest := []) "java/lang/String" 0 bAt_d7 (hw _ (List.mem_of_getElem? (i := 263) rfl)) (hw _ (List.mem_of_getElem? (i := 264) rfl)) (fun vm hz => Road.notFace_sib (args := #[]) (mv (s := D.s.setVm vm) hz (hw _ (List.mem_of_getElem? (i := 127) rfl))) rfl) (hw _ (List.mem_of_getElem? (i := 266) rfl)) (hw _ (List.mem_of_getElem? (i := 265) rfl)) (hw _ (List.mem_of_getElem? (i := 48) rfl)) (hw _ (List.mem_of_getElem? (i := 267) rfl)) (by decide) T.1 (cChA l Z a0 hw n0 hEW r rd L (Nat.toInt32 i) i h0 σ T (Road.n32 (by omega)) hc2 cp Hc hcp fm hfm Hf) (lenOf bChA_pd rfl) rfl rfl rfl (by decide) (by decide) (ce' := 0) (sl' := 0) rfl rfl (by decide) (by decide) ?_
    rintro _ h_1 σ_2 m_3 ⟨rfl, rfl⟩
    refine Road.Go.weaken (σ' := σ) m_3 (Nat.le_refl _) (Nat.le_refl _) ?_
    refine Road.aloadN 10 bAt_d10 rfl ?_
    refine Road.iloadN 11 bAt_d11 rfl ?_
    refine Road.caload 12 i bAt_d12 A (Road.n32 (by omega)) (by rw [List.getElem?_append_left (by rw [List.length_map]; exact hc2), List.getElem?_map, List.getElem?_eq_getElem hc2]; rfl) ?_
    refine Road.icmp_ne 13 20 bAt_d13 rfl (fun q => absurd q (by simp)) (fun hc13 => ?_)
    refine Road.iconst 16 (1 : Int32) bAt_d16 rfl ?_
    refine Road.goto 17 21 bAt_d17 rfl ?_
    exact Road.iret 21 1 bAt_d21 (t := .boolean) rfl (by simp) rfl (by decide) (by decide) (fun σ' m => ⟨rfl, rfl⟩)
def b0 : Road.Bdy := (x, code, maxLocals, ret, room_1)
theorem b0_d0 : decode b0.bs 0 = .ok (.iload_n 0, 1) := at_0
theorem b0_d1 : decode b0.bs 1 = .ok (.iconst 3, 1) := at_1
theorem b0_d2 : decode b0.bs 2 = .ok (.iand, 1) := at_2
theorem b0_d3 : decode b0.bs 3 = .ok (.iconst 3, 1) := at_3
theorem b0_d4 : decode b0.bs 4 = .ok (.irem, 1) := at_4
theorem b0_d5 : decode b0.bs 5 = .ok (.istore_n 3, 1) := at_5
theorem b0_d6 : decode b0.bs 6 = .ok (.iload_n 0, 1) := at_6
theorem b0_d7 : decode b0.bs 7 = .ok (.iconst 2, 1) := at_7
theorem b0_d8 : decode b0.bs 8 = .ok (.iushr, 1) := at_8
theorem b0_d9 : decode b0.bs 9 = .ok (.iconst 3, 1) := at_9
theorem b0_d10 : decode b0.bs 10 = .ok (.iand, 1) := at_10
theorem b0_d11 : decode b0.bs 11 = .ok (.iconst 3, 1) := at_11
theorem b0_d12 : decode b0.bs 12 = .ok (.irem, 1) := at_12
theorem b0_d13 : decode b0.bs 13 = .ok (.istore 4, 2) := at_13
theorem b0_d15 : decode b0.bs 15 = .ok (.iload_n 0, 1) := at_15
theorem b0_d16 : decode b0.bs 16 = .ok (.iconst 4, 1) := at_16
theorem b0_d17 : decode b0.bs 17 = .ok (.iushr, 1) := at_17
theorem b0_d18 : decode b0.bs 18 = .ok (.iconst 3, 1) := at_18
theorem b0_d19 : decode b0.bs 19 = .ok (.iand, 1) := at_19
theorem b0_d20 : decode b0.bs 20 = .ok (.iconst 3, 1) := at_20
theorem b0_d21 : decode b0.bs 21 = .ok (.irem, 1) := at_21
theorem b0_d22 : decode b0.bs 22 = .ok (.istore 5, 2) := at_22
theorem b0_d24 : decode b0.bs 24 = .ok (.iload_n 1, 1) := at_24
theorem b0_d25 : decode b0.bs 25 = .ok (.iconst 0, 1) := at_25
theorem b0_d26 : decode b0.bs 26 = .ok (.invokestatic 7, 3) := at_26
theorem b0_d29 : decode b0.bs 29 = .ok (.istore 6, 2) := at_29
theorem b0_d31 : decode b0.bs 31 = .ok (.iload_n 1, 1) := at_31
theorem b0_d32 : decode b0.bs 32 = .ok (.iconst 1, 1) := at_32
theorem b0_d33 : decode b0.bs 33 = .ok (.invokestatic 7, 3) := at_33
theorem b0_d36 : decode b0.bs 36 = .ok (.istore 7, 2) := at_36
theorem b0_d38 : decode b0.bs 38 = .ok (.iload_n 1, 1) := at_38
theorem b0_d39 : decode b0.bs 39 = .ok (.iconst 2, 1) := at_39
theorem b0_d40 : decode b0.bs 40 = .ok (.invokestatic 7, 3) := at_40
theorem b0_d43 : decode b0.bs 43 = .ok (.istore 8, 2) := at_43
theorem b0_d45 : decode b0.bs 45 = .ok (.iload_n 2, 1) := at_45
theorem b0_d46 : decode b0.bs 46 = .ok (.iconst 0, 1) := at_46
theorem b0_d47 : decode b0.bs 47 = .ok (.invokestatic 7, 3) := at_47
theorem b0_d50 : decode b0.bs 50 = .ok (.istore 9, 2) := at_50
theorem b0_d52 : decode b0.bs 52 = .ok (.iload_n 2, 1) := at_52
theorem b0_d53 : decode b0.bs 53 = .ok (.iconst 1, 1) := at_53
theorem b0_d54 : decode b0.bs 54 = .ok (.invokestatic 7, 3) := at_54
theorem b0_d57 : decode b0.bs 57 = .ok (.istore 10, 2) := at_57
theorem b0_d59 : decode b0.bs 59 = .ok (.iload_n 2, 1) := at_59
theorem b0_d60 : decode b0.bs 60 = .ok (.iconst 2, 1) := at_60
theorem b0_d61 : decode b0.bs 61 = .ok (.invokestatic 7, 3) := at_61
theorem b0_d64 : decode b0.bs 64 = .ok (.istore 11, 2) := at_64
theorem b0_d66 : decode b0.bs 66 = .ok (.new 13, 3) := at_66
theorem b0_d69 : decode b0.bs 69 = .ok (.dup, 1) := at_69
theorem b0_d70 : decode b0.bs 70 = .ok (.invokespecial 15, 3) := at_70
theorem b0_d73 : decode b0.bs 73 = .ok (.astore 12, 2) := at_73
theorem b0_d75 : decode b0.bs 75 = .ok (.new 13, 3) := at_75
theorem b0_d78 : decode b0.bs 78 = .ok (.dup, 1) := at_78
theorem b0_d79 : decode b0.bs 79 = .ok (.invokespecial 15, 3) := at_79
theorem b0_d82 : decode b0.bs 82 = .ok (.astore 13, 2) := at_82
theorem b0_d84 : decode b0.bs 84 = .ok (.iload_n 3, 1) := at_84
theorem b0_d85 : decode b0.bs 85 = .ok (.iconst 1, 1) := at_85
theorem b0_d86 : decode b0.bs 86 = .ok (.if_icmp .lt 29, 3) := at_86
theorem b0_d89 : decode b0.bs 89 = .ok (.aload 12, 2) := at_89
theorem b0_d91 : decode b0.bs 91 = .ok (.iload 6, 2) := at_91
theorem b0_d93 : decode b0.bs 93 = .ok (.invokestatic 16, 3) := at_93
theorem b0_d96 : decode b0.bs 96 = .ok (.invokevirtual 22, 3) := at_96
theorem b0_d99 : decode b0.bs 99 = .ok (.pop, 1) := at_99
theorem b0_d100 : decode b0.bs 100 = .ok (.aload 13, 2) := at_100
theorem b0_d102 : decode b0.bs 102 = .ok (.iload 4, 2) := at_102
theorem b0_d104 : decode b0.bs 104 = .ok (.iload 7, 2) := at_104
theorem b0_d106 : decode b0.bs 106 = .ok (.iload 8, 2) := at_106
theorem b0_d108 : decode b0.bs 108 = .ok (.invokestatic 26, 3) := at_108
theorem b0_d111 : decode b0.bs 111 = .ok (.invokevirtual 22, 3) := at_111
theorem b0_d114 : decode b0.bs 114 = .ok (.pop, 1) := at_114
theorem b0_d115 : decode b0.bs 115 = .ok (.iload_n 3, 1) := at_115
theorem b0_d116 : decode b0.bs 116 = .ok (.iconst 2, 1) := at_116
theorem b0_d117 : decode b0.bs 117 = .ok (.if_icmp .lt 29, 3) := at_117
theorem b0_d120 : decode b0.bs 120 = .ok (.aload 12, 2) := at_120
theorem b0_d122 : decode b0.bs 122 = .ok (.iload 9, 2) := at_122
theorem b0_d124 : decode b0.bs 124 = .ok (.invokestatic 16, 3) := at_124
theorem b0_d127 : decode b0.bs 127 = .ok (.invokevirtual 22, 3) := at_127
theorem b0_d130 : decode b0.bs 130 = .ok (.pop, 1) := at_130
theorem b0_d131 : decode b0.bs 131 = .ok (.aload 13, 2) := at_131
theorem b0_d133 : decode b0.bs 133 = .ok (.iload 5, 2) := at_133
theorem b0_d135 : decode b0.bs 135 = .ok (.iload 10, 2) := at_135
theorem b0_d137 : decode b0.bs 137 = .ok (.iload 11, 2) := at_137
theorem b0_d139 : decode b0.bs 139 = .ok (.invokestatic 26, 3) := at_139
theorem b0_d142 : decode b0.bs 142 = .ok (.invokevirtual 22, 3) := at_142
theorem b0_d145 : decode b0.bs 145 = .ok (.pop, 1) := at_145
theorem b0_d146 : decode b0.bs 146 = .ok (.aload 12, 2) := at_146
theorem b0_d148 : decode b0.bs 148 = .ok (.aload 13, 2) := at_148
theorem b0_d150 : decode b0.bs 150 = .ok (.invokestatic 30, 3) := at_150
theorem b0_d153 : decode b0.bs 153 = .ok (.astore 14, 2) := at_153
theorem b0_d155 : decode b0.bs 155 = .ok (.bipush 18, 2) := at_155
theorem b0_d157 : decode b0.bs 157 = .ok (.newarray .char, 2) := at_157
theorem b0_d159 : decode b0.bs 159 = .ok (.astore 15, 2) := at_159
theorem b0_d161 : decode b0.bs 161 = .ok (.iconst 0, 1) := at_161
theorem b0_d162 : decode b0.bs 162 = .ok (.istore 16, 2) := at_162
theorem b0_d164 : decode b0.bs 164 = .ok (.iload_n 3, 1) := at_164
theorem b0_d165 : decode b0.bs 165 = .ok (.iconst 1, 1) := at_165
theorem b0_d166 : decode b0.bs 166 = .ok (.if_icmp .lt 21, 3) := at_166
theorem b0_d169 : decode b0.bs 169 = .ok (.aload 15, 2) := at_169
theorem b0_d171 : decode b0.bs 171 = .ok (.iload 16, 2) := at_171
theorem b0_d173 : decode b0.bs 173 = .ok (.iconst 1, 1) := at_173
theorem b0_d174 : decode b0.bs 174 = .ok (.iload 6, 2) := at_174
theorem b0_d176 : decode b0.bs 176 = .ok (.iload 4, 2) := at_176
theorem b0_d178 : decode b0.bs 178 = .ok (.iload 7, 2) := at_178
theorem b0_d180 : decode b0.bs 180 = .ok (.iload 8, 2) := at_180
theorem b0_d182 : decode b0.bs 182 = .ok (.invokestatic 36, 3) := at_182
theorem b0_d185 : decode b0.bs 185 = .ok (.istore 16, 2) := at_185
theorem b0_d187 : decode b0.bs 187 = .ok (.iload_n 3, 1) := at_187
theorem b0_d188 : decode b0.bs 188 = .ok (.iconst 2, 1) := at_188
theorem b0_d189 : decode b0.bs 189 = .ok (.if_icmp .lt 21, 3) := at_189
theorem b0_d192 : decode b0.bs 192 = .ok (.aload 15, 2) := at_192
theorem b0_d194 : decode b0.bs 194 = .ok (.iload 16, 2) := at_194
theorem b0_d196 : decode b0.bs 196 = .ok (.iconst 0, 1) := at_196
theorem b0_d197 : decode b0.bs 197 = .ok (.iload 9, 2) := at_197
theorem b0_d199 : decode b0.bs 199 = .ok (.iload 5, 2) := at_199
theorem b0_d201 : decode b0.bs 201 = .ok (.iload 10, 2) := at_201
theorem b0_d203 : decode b0.bs 203 = .ok (.iload 11, 2) := at_203
theorem b0_d205 : decode b0.bs 205 = .ok (.invokestatic 36, 3) := at_205
theorem b0_d208 : decode b0.bs 208 = .ok (.istore 16, 2) := at_208
theorem b0_d210 : decode b0.bs 210 = .ok (.aload 14, 2) := at_210
theorem b0_d212 : decode b0.bs 212 = .ok (.invokevirtual 40, 3) := at_212
theorem b0_d215 : decode b0.bs 215 = .ok (.iload 16, 2) := at_215
theorem b0_d217 : decode b0.bs 217 = .ok (.if_icmp .eq 5, 3) := at_217
theorem b0_d220 : decode b0.bs 220 = .ok (.iconst 0, 1) := at_220
theorem b0_d221 : decode b0.bs 221 = .ok (.ireturn, 1) := at_221
theorem b0_d222 : decode b0.bs 222 = .ok (.aload 14, 2) := at_222
theorem b0_d224 : decode b0.bs 224 = .ok (.aload 15, 2) := at_224
theorem b0_d226 : decode b0.bs 226 = .ok (.iconst 0, 1) := at_226
theorem b0_d227 : decode b0.bs 227 = .ok (.iload 16, 2) := at_227
theorem b0_d229 : decode b0.bs 229 = .ok (.invokestatic 44, 3) := at_229
theorem b0_d232 : decode b0.bs 232 = .ok (.ifCond .eq 240, 3) := at_232
theorem b0_d235 : decode b0.bs 235 = .ok (.aload 14, 2) := at_235
theorem b0_d237 : decode b0.bs 237 = .ok (.aload 15, 2) := at_237
theorem b0_d239 : decode b0.bs 239 = .ok (.iconst 1, 1) := at_239
theorem b0_d240 : decode b0.bs 240 = .ok (.iload 16, 2) := at_240
theorem b0_d242 : decode b0.bs 242 = .ok (.invokestatic 44, 3) := at_242
theorem b0_d245 : decode b0.bs 245 = .ok (.ifCond .eq 227, 3) := at_245
theorem b0_d248 : decode b0.bs 248 = .ok (.aload 14, 2) := at_248
theorem b0_d250 : decode b0.bs 250 = .ok (.aload 15, 2) := at_250
theorem b0_d252 : decode b0.bs 252 = .ok (.iconst 2, 1) := at_252
theorem b0_d253 : decode b0.bs 253 = .ok (.iload 16, 2) := at_253
theorem b0_d255 : decode b0.bs 255 = .ok (.invokestatic 44, 3) := at_255
theorem b0_d258 : decode b0.bs 258 = .ok (.ifCond .eq 214, 3) := at_258
theorem b0_d261 : decode b0.bs 261 = .ok (.aload 14, 2) := at_261
theorem b0_d263 : decode b0.bs 263 = .ok (.aload 15, 2) := at_263
theorem b0_d265 : decode b0.bs 265 = .ok (.iconst 3, 1) := at_265
theorem b0_d266 : decode b0.bs 266 = .ok (.iload 16, 2) := at_266
theorem b0_d268 : decode b0.bs 268 = .ok (.invokestatic 44, 3) := at_268
theorem b0_d271 : decode b0.bs 271 = .ok (.ifCond .eq 201, 3) := at_271
theorem b0_d274 : decode b0.bs 274 = .ok (.aload 14, 2) := at_274
theorem b0_d276 : decode b0.bs 276 = .ok (.aload 15, 2) := at_276
theorem b0_d278 : decode b0.bs 278 = .ok (.iconst 4, 1) := at_278
theorem b0_d279 : decode b0.bs 279 = .ok (.iload 16, 2) := at_279
theorem b0_d281 : decode b0.bs 281 = .ok (.invokestatic 44, 3) := at_281
theorem b0_d284 : decode b0.bs 284 = .ok (.ifCond .eq 188, 3) := at_284
theorem b0_d287 : decode b0.bs 287 = .ok (.aload 14, 2) := at_287
theorem b0_d289 : decode b0.bs 289 = .ok (.aload 15, 2) := at_289
theorem b0_d291 : decode b0.bs 291 = .ok (.iconst 5, 1) := at_291
theorem b0_d292 : decode b0.bs 292 = .ok (.iload 16, 2) := at_292
theorem b0_d294 : decode b0.bs 294 = .ok (.invokestatic 44, 3) := at_294
theorem b0_d297 : decode b0.bs 297 = .ok (.ifCond .eq 175, 3) := at_297
theorem b0_d300 : decode b0.bs 300 = .ok (.aload 14, 2) := at_300
theorem b0_d302 : decode b0.bs 302 = .ok (.aload 15, 2) := at_302
theorem b0_d304 : decode b0.bs 304 = .ok (.bipush 6, 2) := at_304
theorem b0_d306 : decode b0.bs 306 = .ok (.iload 16, 2) := at_306
theorem b0_d308 : decode b0.bs 308 = .ok (.invokestatic 44, 3) := at_308
theorem b0_d311 : decode b0.bs 311 = .ok (.ifCond .eq 161, 3) := at_311
theorem b0_d314 : decode b0.bs 314 = .ok (.aload 14, 2) := at_314
theorem b0_d316 : decode b0.bs 316 = .ok (.aload 15, 2) := at_316
theorem b0_d318 : decode b0.bs 318 = .ok (.bipush 7, 2) := at_318
theorem b0_d320 : decode b0.bs 320 = .ok (.iload 16, 2) := at_320
theorem b0_d322 : decode b0.bs 322 = .ok (.invokestatic 44, 3) := at_322
theorem b0_d325 : decode b0.bs 325 = .ok (.ifCond .eq 147, 3) := at_325
theorem b0_d328 : decode b0.bs 328 = .ok (.aload 14, 2) := at_328
theorem b0_d330 : decode b0.bs 330 = .ok (.aload 15, 2) := at_330
theorem b0_d332 : decode b0.bs 332 = .ok (.bipush 8, 2) := at_332
theorem b0_d334 : decode b0.bs 334 = .ok (.iload 16, 2) := at_334
theorem b0_d336 : decode b0.bs 336 = .ok (.invokestatic 44, 3) := at_336
theorem b0_d339 : decode b0.bs 339 = .ok (.ifCond .eq 133, 3) := at_339
theorem b0_d342 : decode b0.bs 342 = .ok (.aload 14, 2) := at_342
theorem b0_d344 : decode b0.bs 344 = .ok (.aload 15, 2) := at_344
theorem b0_d346 : decode b0.bs 346 = .ok (.bipush 9, 2) := at_346
theorem b0_d348 : decode b0.bs 348 = .ok (.iload 16, 2) := at_348
theorem b0_d350 : decode b0.bs 350 = .ok (.invokestatic 44, 3) := at_350
theorem b0_d353 : decode b0.bs 353 = .ok (.ifCond .eq 119, 3) := at_353
theorem b0_d356 : decode b0.bs 356 = .ok (.aload 14, 2) := at_356
theorem b0_d358 : decode b0.bs 358 = .ok (.aload 15, 2) := at_358
theorem b0_d360 : decode b0.bs 360 = .ok (.bipush 10, 2) := at_360
theorem b0_d362 : decode b0.bs 362 = .ok (.iload 16, 2) := at_362
theorem b0_d364 : decode b0.bs 364 = .ok (.invokestatic 44, 3) := at_364
theorem b0_d367 : decode b0.bs 367 = .ok (.ifCond .eq 105, 3) := at_367
theorem b0_d370 : decode b0.bs 370 = .ok (.aload 14, 2) := at_370
theorem b0_d372 : decode b0.bs 372 = .ok (.aload 15, 2) := at_372
theorem b0_d374 : decode b0.bs 374 = .ok (.bipush 11, 2) := at_374
theorem b0_d376 : decode b0.bs 376 = .ok (.iload 16, 2) := at_376
theorem b0_d378 : decode b0.bs 378 = .ok (.invokestatic 44, 3) := at_378
theorem b0_d381 : decode b0.bs 381 = .ok (.ifCond .eq 91, 3) := at_381
theorem b0_d384 : decode b0.bs 384 = .ok (.aload 14, 2) := at_384
theorem b0_d386 : decode b0.bs 386 = .ok (.aload 15, 2) := at_386
theorem b0_d388 : decode b0.bs 388 = .ok (.bipush 12, 2) := at_388
theorem b0_d390 : decode b0.bs 390 = .ok (.iload 16, 2) := at_390
theorem b0_d392 : decode b0.bs 392 = .ok (.invokestatic 44, 3) := at_392
theorem b0_d395 : decode b0.bs 395 = .ok (.ifCond .eq 77, 3) := at_395
theorem b0_d398 : decode b0.bs 398 = .ok (.aload 14, 2) := at_398
theorem b0_d400 : decode b0.bs 400 = .ok (.aload 15, 2) := at_400
theorem b0_d402 : decode b0.bs 402 = .ok (.bipush 13, 2) := at_402
theorem b0_d404 : decode b0.bs 404 = .ok (.iload 16, 2) := at_404
theorem b0_d406 : decode b0.bs 406 = .ok (.invokestatic 44, 3) := at_406
theorem b0_d409 : decode b0.bs 409 = .ok (.ifCond .eq 63, 3) := at_409
theorem b0_d412 : decode b0.bs 412 = .ok (.aload 14, 2) := at_412
theorem b0_d414 : decode b0.bs 414 = .ok (.aload 15, 2) := at_414
theorem b0_d416 : decode b0.bs 416 = .ok (.bipush 14, 2) := at_416
theorem b0_d418 : decode b0.bs 418 = .ok (.iload 16, 2) := at_418
theorem b0_d420 : decode b0.bs 420 = .ok (.invokestatic 44, 3) := at_420
theorem b0_d423 : decode b0.bs 423 = .ok (.ifCond .eq 49, 3) := at_423
theorem b0_d426 : decode b0.bs 426 = .ok (.aload 14, 2) := at_426
theorem b0_d428 : decode b0.bs 428 = .ok (.aload 15, 2) := at_428
theorem b0_d430 : decode b0.bs 430 = .ok (.bipush 15, 2) := at_430
theorem b0_d432 : decode b0.bs 432 = .ok (.iload 16, 2) := at_432
theorem b0_d434 : decode b0.bs 434 = .ok (.invokestatic 44, 3) := at_434
theorem b0_d437 : decode b0.bs 437 = .ok (.ifCond .eq 35, 3) := at_437
theorem b0_d440 : decode b0.bs 440 = .ok (.aload 14, 2) := at_440
theorem b0_d442 : decode b0.bs 442 = .ok (.aload 15, 2) := at_442
theorem b0_d444 : decode b0.bs 444 = .ok (.bipush 16, 2) := at_444
theorem b0_d446 : decode b0.bs 446 = .ok (.iload 16, 2) := at_446
theorem b0_d448 : decode b0.bs 448 = .ok (.invokestatic 44, 3) := at_448
theorem b0_d451 : decode b0.bs 451 = .ok (.ifCond .eq 21, 3) := at_451
theorem b0_d454 : decode b0.bs 454 = .ok (.aload 14, 2) := at_454
theorem b0_d456 : decode b0.bs 456 = .ok (.aload 15, 2) := at_456
theorem b0_d458 : decode b0.bs 458 = .ok (.bipush 17, 2) := at_458
theorem b0_d460 : decode b0.bs 460 = .ok (.iload 16, 2) := at_460
theorem b0_d462 : decode b0.bs 462 = .ok (.invokestatic 44, 3) := at_462
theorem b0_d465 : decode b0.bs 465 = .ok (.ifCond .eq 7, 3) := at_465
theorem b0_d468 : decode b0.bs 468 = .ok (.iconst 1, 1) := at_468
theorem b0_d469 : decode b0.bs 469 = .ok (.goto 4, 3) := at_469
theorem b0_d472 : decode b0.bs 472 = .ok (.iconst 0, 1) := at_472
theorem b0_d473 : decode b0.bs 473 = .ok (.ireturn, 1) := at_473
theorem b0_pd : parseMethodDescriptor "(III)Z" = some ⟨[.int, .int, .int], (some .boolean)⟩ := by decide +kernel
theorem b0_pn : plainFor b0.y = true := plainFor_of_name (show plainName "com/example/meerkat/meerkat/metrics/ExpositionLabelsPinLaw" = true from by first | (simp [plainName, overriddenIn]; done) | decide +kernel)
set_option maxHeartbeats 4000000 in
theorem law (l : Launch) (Z : State) (a0 : Array Value) (hw : ∀ d ∈ tables_1, d.before a0 Z = true) (n0 : Nat) (hEW : EW Z a0 consts_1) (p0 p1 p2 : Int32) (h0 : Heap) (σ : Addr → Prop) (cp : Int32) (Hc : Sta Z Z.heap Road.SN "COMPACT_STRINGS" "Z" (.int cp)) (hcp : ¬ cp = 0) (fm : Value) (hfm : fm.isRef = true) (Hf : Sta Z Z.heap "jdk/internal/util/Preconditions" "SIOOBE_FORMATTER" "Ljava/util/function/BiFunction;" fm) (da : Addr) (HDa : Sta Z Z.heap "java/util/ArrayList" "DEFAULTCAPACITY_EMPTY_ELEMENTDATA" "[Ljava/lang/Object;" (.ref da)) (ADa : Road.Ary Z Z.heap da (.object "java/lang/Object") []) (ws : List Jvm.Cond) :
    Road.Con l Z consts_1 n0 false b0 ws σ #[(.int p0), (.int p1), (.int p2)] h0 (fun v h2 _ => v = some (.int 1)) := by
  refine Road.Con.of b0_pn hEW #[.val (.int p0), .val (.int p1), .val (.int p2), .unset, .unset, .unset, .unset, .unset, .unset, .unset, .unset, .unset, .unset, .unset, .unset, .unset, .unset] (fun m => Road.ent (Road.laid1 rfl (Road.laid1 rfl (Road.laid1 rfl Road.laid0))) (k := 14) rfl rfl) ?_
  intro D hD
  refine Road.iloadN 0 b0_d0 rfl ?_
  refine Road.iconst 1 (3 : Int32) b0_d1 rfl ?_
  refine Road.iand 2 b0_d2 ?_
  refine Road.iconst 3 (3 : Int32) b0_d3 rfl ?_
  refine Road.irem 4 b0_d4 (by decide) ?_
  refine Road.nameI ?_
  intro m hm
  have hm3 : m = 0 ∨ m = 1 ∨ m = 2 := by
    rw [hm]; rcases Road.and3 p0 with q | q | q | q <;> rw [q] <;> decide
  clear hm
  refine Road.istoreN 5 #[.val (.int p0), .val (.int p1), .val (.int p2), .val (.int m), .unset, .unset, .unset, .unset, .unset, .unset, .unset, .unset, .unset, .unset, .unset, .unset, .unset] b0_d5 rfl ?_
  refine Road.iloadN 6 b0_d6 rfl ?_
  refine Road.iconst 7 (2 : Int32) b0_d7 rfl ?_
  refine Road.iushr 8 b0_d8 ?_
  refine Road.iconst 9 (3 : Int32) b0_d9 rfl ?_
  refine Road.iand 10 b0_d10 ?_
  refine Road.iconst 11 (3 : Int32) b0_d11 rfl ?_
  refine Road.irem 12 b0_d12 (by decide) ?_
  refine Road.nameI ?_
  intro k0 hk0
  have hk03 : k0 = 0 ∨ k0 = 1 ∨ k0 = 2 := by
    rw [hk0]; rcases Road.and3 (XT.ushr p0 2) with q | q | q | q <;> rw [q] <;> decide
  clear hk0
  refine Road.istore 13 #[.val (.int p0), .val (.int p1), .val (.int p2), .val (.int m), .val (.int k0), .unset, .unset, .unset, .unset, .unset, .unset, .unset, .unset, .unset, .unset, .unset, .unset] b0_d13 rfl ?_
  refine Road.iloadN 15 b0_d15 rfl ?_
  refine Road.iconst 16 (4 : Int32) b0_d16 rfl ?_
  refine Road.iushr 17 b0_d17 ?_
  refine Road.iconst 18 (3 : Int32) b0_d18 rfl ?_
  refine Road.iand 19 b0_d19 ?_
  refine Road.iconst 20 (3 : Int32) b0_d20 rfl ?_
  refine Road.irem 21 b0_d21 (by decide) ?_
  refine Road.nameI ?_
  intro k1 hk1
  have hk13 : k1 = 0 ∨ k1 = 1 ∨ k1 = 2 := by
    rw [hk1]; rcases Road.and3 (XT.ushr p0 4) with q | q | q | q <;> rw [q] <;> decide
  clear hk1
  refine Road.istore 22 #[.val (.int p0), .val (.int p1), .val (.int p2), .val (.int m), .val (.int k0), .val (.int k1), .unset, .unset, .unset, .unset, .unset, .unset, .unset, .unset, .unset, .unset, .unset] b0_d22 rfl ?_
  refine Road.iloadN 24 b0_d24 rfl ?_
  refine Road.iconst 25 (0 : Int32) b0_d25 rfl ?_
  refine Road.callS (B' := bCh) 26 (argsL := [(.int p1), (.int (0 : Int32))]) (rest := []) 0 b0_d26 (hw _ (List.mem_of_getElem? (i := 0) rfl)) (hw _ (List.mem_of_getElem? (i := 1) rfl)) (hw _ (List.mem_of_getElem? (i := 2) rfl)) (hw _ (List.mem_of_getElem? (i := 3) rfl)) (by decide) (cCh l Z a0 hw n0 hEW p1 (0 : Int32) h0 σ) (lenOf bCh_pd rfl) rfl rfl rfl (by decide) (by decide) (ce' := 0) (sl' := 0) rfl rfl (by decide) (by decide) ?_
  rintro _ h_1 σ_2 m_3 ⟨n0c, rfl, ln0c, rfl⟩
  refine Road.Go.weaken (σ' := σ) m_3 (Nat.le_refl _) (Nat.le_refl _) ?_
  refine Road.istore 29 #[.val (.int p0), .val (.int p1), .val (.int p2), .val (.int m), .val (.int k0), .val (.int k1), .val (.int n0c), .unset, .unset, .unset, .unset, .unset, .unset, .unset, .unset, .unset, .unset] b0_d29 rfl ?_
  refine Road.iloadN 31 b0_d31 rfl ?_
  refine Road.iconst 32 (1 : Int32) b0_d32 rfl ?_
  refine Road.callS (B' := bCh) 33 (argsL := [(.int p1), (.int (1 : Int32))]) (rest := []) 0 b0_d33 (hw _ (List.mem_of_getElem? (i := 0) rfl)) (hw _ (List.mem_of_getElem? (i := 1) rfl)) (hw _ (List.mem_of_getElem? (i := 2) rfl)) (hw _ (List.mem_of_getElem? (i := 3) rfl)) (by decide) (cCh l Z a0 hw n0 hEW p1 (1 : Int32) h0 σ) (lenOf bCh_pd rfl) rfl rfl rfl (by decide) (by decide) (ce' := 0) (sl' := 0) rfl rfl (by decide) (by decide) ?_
  rintro _ h_5 σ_6 m_7 ⟨a0c, rfl, la0c, rfl⟩
  refine Road.Go.weaken (σ' := σ) m_7 (Nat.le_refl _) (Nat.le_refl _) ?_
  refine Road.istore 36 #[.val (.int p0), .val (.int p1), .val (.int p2), .val (.int m), .val (.int k0), .val (.int k1), .val (.int n0c), .val (.int a0c), .unset, .unset, .unset, .unset, .unset, .unset, .unset, .unset, .unset] b0_d36 rfl ?_
  refine Road.iloadN 38 b0_d38 rfl ?_
  refine Road.iconst 39 (2 : Int32) b0_d39 rfl ?_
  refine Road.callS (B' := bCh) 40 (argsL := [(.int p1), (.int (2 : Int32))]) (rest := []) 0 b0_d40 (hw _ (List.mem_of_getElem? (i := 0) rfl)) (hw _ (List.mem_of_getElem? (i := 1) rfl)) (hw _ (List.mem_of_getElem? (i := 2) rfl)) (hw _ (List.mem_of_getElem? (i := 3) rfl)) (by decide) (cCh l Z a0 hw n0 hEW p1 (2 : Int32) h0 σ) (lenOf bCh_pd rfl) rfl rfl rfl (by decide) (by decide) (ce' := 0) (sl' := 0) rfl rfl (by decide) (by decide) ?_
  rintro _ h_9 σ_10 m_11 ⟨b0c, rfl, lb0c, rfl⟩
  refine Road.Go.weaken (σ' := σ) m_11 (Nat.le_refl _) (Nat.le_refl _) ?_
  refine Road.istore 43 #[.val (.int p0), .val (.int p1), .val (.int p2), .val (.int m), .val (.int k0), .val (.int k1), .val (.int n0c), .val (.int a0c), .val (.int b0c), .unset, .unset, .unset, .unset, .unset, .unset, .unset, .unset] b0_d43 rfl ?_
  refine Road.iloadN 45 b0_d45 rfl ?_
  refine Road.iconst 46 (0 : Int32) b0_d46 rfl ?_
  refine Road.callS (B' := bCh) 47 (argsL := [(.int p2), (.int (0 : Int32))]) (rest := []) 0 b0_d47 (hw _ (List.mem_of_getElem? (i := 0) rfl)) (hw _ (List.mem_of_getElem? (i := 1) rfl)) (hw _ (List.mem_of_getElem? (i := 2) rfl)) (hw _ (List.mem_of_getElem? (i := 3) rfl)) (by decide) (cCh l Z a0 hw n0 hEW p2 (0 : Int32) h0 σ) (lenOf bCh_pd rfl) rfl rfl rfl (by decide) (by decide) (ce' := 0) (sl' := 0) rfl rfl (by decide) (by decide) ?_
  rintro _ h_13 σ_14 m_15 ⟨n1c, rfl, ln1c, rfl⟩
  refine Road.Go.weaken (σ' := σ) m_15 (Nat.le_refl _) (Nat.le_refl _) ?_
  refine Road.istore 50 #[.val (.int p0), .val (.int p1), .val (.int p2), .val (.int m), .val (.int k0), .val (.int k1), .val (.int n0c), .val (.int a0c), .val (.int b0c), .val (.int n1c), .unset, .unset, .unset, .unset, .unset, .unset, .unset] b0_d50 rfl ?_
  refine Road.iloadN 52 b0_d52 rfl ?_
  refine Road.iconst 53 (1 : Int32) b0_d53 rfl ?_
  refine Road.callS (B' := bCh) 54 (argsL := [(.int p2), (.int (1 : Int32))]) (rest := []) 0 b0_d54 (hw _ (List.mem_of_getElem? (i := 0) rfl)) (hw _ (List.mem_of_getElem? (i := 1) rfl)) (hw _ (List.mem_of_getElem? (i := 2) rfl)) (hw _ (List.mem_of_getElem? (i := 3) rfl)) (by decide) (cCh l Z a0 hw n0 hEW p2 (1 : Int32) h0 σ) (lenOf bCh_pd rfl) rfl rfl rfl (by decide) (by decide) (ce' := 0) (sl' := 0) rfl rfl (by decide) (by decide) ?_
  rintro _ h_17 σ_18 m_19 ⟨a1c, rfl, la1c, rfl⟩
  refine Road.Go.weaken (σ' := σ) m_19 (Nat.le_refl _) (Nat.le_refl _) ?_
  refine Road.istore 57 #[.val (.int p0), .val (.int p1), .val (.int p2), .val (.int m), .val (.int k0), .val (.int k1), .val (.int n0c), .val (.int a0c), .val (.int b0c), .val (.int n1c), .val (.int a1c), .unset, .unset, .unset, .unset, .unset, .unset] b0_d57 rfl ?_
  refine Road.iloadN 59 b0_d59 rfl ?_
  refine Road.iconst 60 (2 : Int32) b0_d60 rfl ?_
  refine Road.callS (B' := bCh) 61 (argsL := [(.int p2), (.int (2 : Int32))]) (rest := []) 0 b0_d61 (hw _ (List.mem_of_getElem? (i := 0) rfl)) (hw _ (List.mem_of_getElem? (i := 1) rfl)) (hw _ (List.mem_of_getElem? (i := 2) rfl)) (hw _ (List.mem_of_getElem? (i := 3) rfl)) (by decide) (cCh l Z a0 hw n0 hEW p2 (2 : Int32) h0 σ) (lenOf bCh_pd rfl) rfl rfl rfl (by decide) (by decide) (ce' := 0) (sl' := 0) rfl rfl (by decide) (by decide) ?_
  rintro _ h_21 σ_22 m_23 ⟨b1c, rfl, lb1c, rfl⟩
  refine Road.Go.weaken (σ' := σ) m_23 (Nat.le_refl _) (Nat.le_refl _) ?_
  rcases hm3 with rfl | rfl | rfl
  · skip
    refine Road.istore 64 #[.val (.int p0), .val (.int p1), .val (.int p2), .val (.int (0 : Int32)), .val (.int k0), .val (.int k1), .val (.int n0c), .val (.int a0c), .val (.int b0c), .val (.int n1c), .val (.int a1c), .val (.int b1c), .unset, .unset, .unset, .unset, .unset] b0_d64 rfl ?_
    refine Road.new 66 "java/util/ArrayList" b0_d66 (hw _ (List.mem_of_getElem? (i := 4) rfl)) (hw _ (List.mem_of_getElem? (i := 5) rfl)) (hw _ (List.mem_of_getElem? (i := 6) rfl)) (ce' := 1) (sl' := 3) rfl rfl (by decide) (by decide) ?_
    intro o h_25 σ_26 g_27 K_28 lt_29 m_30 s_31 uE D_32 M_33
    have um := D_32 (Or.inl (hw _ (List.mem_of_getElem? (i := 26) rfl))) (ty := .int) (by decide)
    have ue := D_32 (Or.inl (hw _ (List.mem_of_getElem? (i := 29) rfl))) (ty := (.array (.object "java/lang/Object"))) (by decide)
    have us := D_32 (Or.inl (hw _ (List.mem_of_getElem? (i := 64) rfl))) (ty := .int) (by decide)
    refine Road.dup 69 b0_d69 ?_
    refine Road.callI (B' := bAlI) (a := o) 70 (argsL := []) (rest := [(.ref o)]) 1 b0_d70 (hw _ (List.mem_of_getElem? (i := 7) rfl)) (hw _ (List.mem_of_getElem? (i := 8) rfl)) (hw _ (List.mem_of_getElem? (i := 6) rfl)) (hw _ (List.mem_of_getElem? (i := 9) rfl)) rfl rfl (by decide) (cAlI l Z a0 hw n0 hEW o h_25 σ_26 uE um ue us s_31 da HDa ADa) (lenOf bAlI_pd rfl) rfl rfl rfl (by decide) (by decide) (ce' := 1) (sl' := 3) rfl rfl (by decide) (by decide) ?_
    rintro _ h_34 σ_35 m_36 ⟨rfl, K_37, um, ue, us⟩
    replace uE := uE.keep K_37
    replace s_31 := m_36 _ s_31
    refine Road.astore 73 #[.val (.int p0), .val (.int p1), .val (.int p2), .val (.int (0 : Int32)), .val (.int k0), .val (.int k1), .val (.int n0c), .val (.int a0c), .val (.int b0c), .val (.int n1c), .val (.int a1c), .val (.int b1c), .val (.ref o), .unset, .unset, .unset, .unset] b0_d73 rfl ?_
    refine Road.new 75 "java/util/ArrayList" b0_d75 (hw _ (List.mem_of_getElem? (i := 4) rfl)) (hw _ (List.mem_of_getElem? (i := 5) rfl)) (hw _ (List.mem_of_getElem? (i := 6) rfl)) (ce' := 2) (sl' := 6) rfl rfl (by decide) (by decide) ?_
    intro p h_39 σ_40 g_41 K_42 lt_43 m_44 s_45 vE D_46 M_47
    have ne_o_p : o ≠ p := Nat.ne_of_lt (Nat.lt_of_lt_of_le uE.lt (Nat.le_of_eq g_41.symm))
    replace uE := uE.keep K_42
    replace um := um.keep K_42 nin0
    replace ue := ue.keep K_42 nin0
    replace us := us.keep K_42 nin0
    replace s_31 := m_44 _ s_31
    have vm := D_46 (Or.inl (hw _ (List.mem_of_getElem? (i := 26) rfl))) (ty := .int) (by decide)
    have ve := D_46 (Or.inl (hw _ (List.mem_of_getElem? (i := 29) rfl))) (ty := (.array (.object "java/lang/Object"))) (by decide)
    have vs := D_46 (Or.inl (hw _ (List.mem_of_getElem? (i := 64) rfl))) (ty := .int) (by decide)
    refine Road.dup 78 b0_d78 ?_
    refine Road.callI (B' := bAlI) (a := p) 79 (argsL := []) (rest := [(.ref p)]) 1 b0_d79 (hw _ (List.mem_of_getElem? (i := 7) rfl)) (hw _ (List.mem_of_getElem? (i := 8) rfl)) (hw _ (List.mem_of_getElem? (i := 6) rfl)) (hw _ (List.mem_of_getElem? (i := 9) rfl)) rfl rfl (by decide) (cAlI l Z a0 hw n0 hEW p h_39 σ_40 vE vm ve vs s_45 da HDa ADa) (lenOf bAlI_pd rfl) rfl rfl rfl (by decide) (by decide) (ce' := 2) (sl' := 6) rfl rfl (by decide) (by decide) ?_
    rintro _ h_48 σ_49 m_50 ⟨rfl, K_51, vm, ve, vs⟩
    replace uE := uE.keep K_51
    replace um := um.keep K_51 (ninS ne_o_p nin0)
    replace ue := ue.keep K_51 (ninS ne_o_p nin0)
    replace us := us.keep K_51 (ninS ne_o_p nin0)
    replace vE := vE.keep K_51
    replace s_31 := m_50 _ s_31
    replace s_45 := m_50 _ s_45
    refine Road.astore 82 #[.val (.int p0), .val (.int p1), .val (.int p2), .val (.int (0 : Int32)), .val (.int k0), .val (.int k1), .val (.int n0c), .val (.int a0c), .val (.int b0c), .val (.int n1c), .val (.int a1c), .val (.int b1c), .val (.ref o), .val (.ref p), .unset, .unset, .unset] b0_d82 rfl ?_
    refine Road.iloadN 84 b0_d84 rfl ?_
    refine Road.iconst 85 (1 : Int32) b0_d85 rfl ?_
    refine Road.icmp_lt 86 115 b0_d86 rfl (fun hc86 => ?_) (fun q => absurd q (by decide))
    refine Road.iloadN 115 b0_d115 rfl ?_
    refine Road.iconst 116 (2 : Int32) b0_d116 rfl ?_
    refine Road.icmp_lt 117 146 b0_d117 rfl (fun hc117 => ?_) (fun q => absurd q (by decide))
    refine Road.aload 146 b0_d146 rfl ?_
    refine Road.aload 148 b0_d148 rfl ?_
    refine Road.callS (B' := bLab0) 150 (argsL := [(.ref o), (.ref p)]) (rest := []) 0 b0_d150 (hw _ (List.mem_of_getElem? (i := 30) rfl)) (hw _ (List.mem_of_getElem? (i := 31) rfl)) (hw _ (List.mem_of_getElem? (i := 32) rfl)) (hw _ (List.mem_of_getElem? (i := 33) rfl)) (by decide) (cLab0 l Z a0 hw n0 hEW o p  h_48 σ_49 uE us vE vs  cp Hc hcp fm hfm Hf) (lenOf bLab0_pd rfl) rfl rfl rfl (by decide) (by decide) (ce' := 6) (sl' := 47) rfl rfl (by decide) (by decide) ?_
    rintro _ h_54 σ_55 m_56 ⟨r, rd, rfl, K_57, T⟩
    replace uE := uE.keep K_57
    replace um := um.keep K_57 nin0
    replace ue := ue.keep K_57 nin0
    replace us := us.keep K_57 nin0
    replace vE := vE.keep K_57
    replace vm := vm.keep K_57 nin0
    replace ve := ve.keep K_57 nin0
    replace vs := vs.keep K_57 nin0
    replace s_31 := m_56 _ s_31
    replace s_45 := m_56 _ s_45
    refine Road.astore 153 #[.val (.int p0), .val (.int p1), .val (.int p2), .val (.int (0 : Int32)), .val (.int k0), .val (.int k1), .val (.int n0c), .val (.int a0c), .val (.int b0c), .val (.int n1c), .val (.int a1c), .val (.int b1c), .val (.ref o), .val (.ref p), .val (.ref r), .unset, .unset] b0_d153 rfl ?_
    refine Road.bipush 155 (18 : Int32) b0_d155 rfl ?_
    refine Road.newarray 157 .char 18 18 b0_d157 rfl (hw _ (List.mem_of_getElem? (i := 123) rfl)) (by decide) (by decide) (by decide) (ce' := 7) (sl' := 65) rfl rfl (by decide) (by decide) ?_
    intro t h_60 σ_61 g_62 K_63 lt_64 m_65 s_66 At
    have ne_r_t : r ≠ t := Nat.ne_of_lt (Nat.lt_of_lt_of_le T.lt (Nat.le_of_eq g_62.symm))
    have ne_rd_t : rd ≠ t := Nat.ne_of_lt (Nat.lt_of_lt_of_le T.ltb (Nat.le_of_eq g_62.symm))
    replace T := T.keep K_63 nin0 nin0
    replace s_31 := m_65 _ s_31
    replace s_45 := m_65 _ s_45
    have F : Buf Z h_60 t [] := ⟨_, At, rfl⟩
    refine Road.astore 159 #[.val (.int p0), .val (.int p1), .val (.int p2), .val (.int (0 : Int32)), .val (.int k0), .val (.int k1), .val (.int n0c), .val (.int a0c), .val (.int b0c), .val (.int n1c), .val (.int a1c), .val (.int b1c), .val (.ref o), .val (.ref p), .val (.ref r), .val (.ref t), .unset] b0_d159 rfl ?_
    refine Road.iconst 161 (0 : Int32) b0_d161 rfl ?_
    refine Road.istore 162 #[.val (.int p0), .val (.int p1), .val (.int p2), .val (.int (0 : Int32)), .val (.int k0), .val (.int k1), .val (.int n0c), .val (.int a0c), .val (.int b0c), .val (.int n1c), .val (.int a1c), .val (.int b1c), .val (.ref o), .val (.ref p), .val (.ref r), .val (.ref t), .val (.int (0 : Int32))] b0_d162 rfl ?_
    refine Road.iloadN 164 b0_d164 rfl ?_
    refine Road.iconst 165 (1 : Int32) b0_d165 rfl ?_
    refine Road.icmp_lt 166 187 b0_d166 rfl (fun hc166 => ?_) (fun q => absurd q (by decide))
    refine Road.iloadN 187 b0_d187 rfl ?_
    refine Road.iconst 188 (2 : Int32) b0_d188 rfl ?_
    refine Road.icmp_lt 189 210 b0_d189 rfl (fun hc189 => ?_) (fun q => absurd q (by decide))
    refine Road.aload 210 b0_d210 rfl ?_
    obtain ⟨L, hL⟩ : ∃ L : List Int32, L = ([] : List Int32) := ⟨_, rfl⟩
    rw [show ([] : List Int32) = L from by rw [hL]] at F
    rw [← hL] at T
    subst hL
    refine Road.callV (B' := bLen) (a := r) 212 (argsL := []) (rest := []) "java/lang/String" 0 b0_d212 (hw _ (List.mem_of_getElem? (i := 124) rfl)) (hw _ (List.mem_of_getElem? (i := 125) rfl)) (fun vm hz => Road.notFace_sib (args := #[]) (mv (s := D.s.setVm vm) hz (hw _ (List.mem_of_getElem? (i := 127) rfl))) rfl) (hw _ (List.mem_of_getElem? (i := 127) rfl)) (hw _ (List.mem_of_getElem? (i := 126) rfl)) (hw _ (List.mem_of_getElem? (i := 48) rfl)) (hw _ (List.mem_of_getElem? (i := 128) rfl)) (by decide) T.1 (cLen l Z a0 hw n0 hEW r rd _ h_60 σ_61 T cp Hc hcp) (lenOf bLen_pd rfl) rfl rfl rfl (by decide) (by decide) (ce' := 7) (sl' := 65) rfl rfl (by decide) (by decide) ?_
    rintro _ h_67 σ_68 m_69 ⟨rfl, rfl⟩
    refine Road.Go.weaken (σ' := σ_61) m_69 (Nat.le_refl _) (Nat.le_refl _) ?_
    refine Road.iload 215 b0_d215 rfl ?_
    refine Road.icmp_eq 217 222 b0_d217 rfl (fun hc217 => ?_) (fun q => absurd q (fun nq => nq rfl))
    refine Road.aload 222 b0_d222 rfl ?_
    refine Road.aload 224 b0_d224 rfl ?_
    refine Road.iconst 226 (0 : Int32) b0_d226 rfl ?_
    refine Road.iload 227 b0_d227 rfl ?_
    refine Road.callS (B' := bAt) 229 (argsL := [(.ref r), (.ref t), (.int (Nat.toInt32 0)), (.int (Nat.toInt32 ([] : List Int32).length))]) (rest := []) 0 b0_d229 (hw _ (List.mem_of_getElem? (i := 135) rfl)) (hw _ (List.mem_of_getElem? (i := 136) rfl)) (hw _ (List.mem_of_getElem? (i := 2) rfl)) (hw _ (List.mem_of_getElem? (i := 137) rfl)) (by decide) (cAt l Z a0 hw n0 hEW r rd t ([] : List Int32) 0 h_60 σ_61 T F (by decide) cp Hc hcp fm hfm Hf) (lenOf bAt_pd rfl) rfl rfl rfl (by decide) (by decide) (ce' := 7) (sl' := 65) rfl rfl (by decide) (by decide) ?_
    rintro _ h_71 σ_72 m_73 ⟨rfl, rfl⟩
    refine Road.Go.weaken (σ' := σ_61) m_73 (Nat.le_refl _) (Nat.le_refl _) ?_
    refine Road.if_eq 232 472 b0_d232 rfl (fun q => absurd q (by decide)) (fun hc232 => ?_)
    refine Road.aload 235 b0_d235 rfl ?_
    refine Road.aload 237 b0_d237 rfl ?_
    refine Road.iconst 239 (1 : Int32) b0_d239 rfl ?_
    refine Road.iload 240 b0_d240 rfl ?_
    refine Road.callS (B' := bAt) 242 (argsL := [(.ref r), (.ref t), (.int (Nat.toInt32 1)), (.int (Nat.toInt32 ([] : List Int32).length))]) (rest := []) 0 b0_d242 (hw _ (List.mem_of_getElem? (i := 135) rfl)) (hw _ (List.mem_of_getElem? (i := 136) rfl)) (hw _ (List.mem_of_getElem? (i := 2) rfl)) (hw _ (List.mem_of_getElem? (i := 137) rfl)) (by decide) (cAt l Z a0 hw n0 hEW r rd t ([] : List Int32) 1 h_60 σ_61 T F (by decide) cp Hc hcp fm hfm Hf) (lenOf bAt_pd rfl) rfl rfl rfl (by decide) (by decide) (ce' := 7) (sl' := 65) rfl rfl (by decide) (by decide) ?_
    rintro _ h_75 σ_76 m_77 ⟨rfl, rfl⟩
    refine Road.Go.weaken (σ' := σ_61) m_77 (Nat.le_refl _) (Nat.le_refl _) ?_
    refine Road.if_eq 245 472 b0_d245 rfl (fun q => absurd q (by decide)) (fun hc245 => ?_)
    refine Road.aload 248 b0_d248 rfl ?_
    refine Road.aload 250 b0_d250 rfl ?_
    refine Road.iconst 252 (2 : Int32) b0_d252 rfl ?_
    refine Road.iload 253 b0_d253 rfl ?_
    refine Road.callS (B' := bAt) 255 (argsL := [(.ref r), (.ref t), (.int (Nat.toInt32 2)), (.int (Nat.toInt32 ([] : List Int32).length))]) (rest := []) 0 b0_d255 (hw _ (List.mem_of_getElem? (i := 135) rfl)) (hw _ (List.mem_of_getElem? (i := 136) rfl)) (hw _ (List.mem_of_getElem? (i := 2) rfl)) (hw _ (List.mem_of_getElem? (i := 137) rfl)) (by decide) (cAt l Z a0 hw n0 hEW r rd t ([] : List Int32) 2 h_60 σ_61 T F (by decide) cp Hc hcp fm hfm Hf) (lenOf bAt_pd rfl) rfl rfl rfl (by decide) (by decide) (ce' := 7) (sl' := 65) rfl rfl (by decide) (by decide) ?_
    rintro _ h_79 σ_80 m_81 ⟨rfl, rfl⟩
    refine Road.Go.weaken (σ' := σ_61) m_81 (Nat.le_refl _) (Nat.le_refl _) ?_
    refine Road.if_eq 258 472 b0_d258 rfl (fun q => absurd q (by decide)) (fun hc258 => ?_)
    refine Road.aload 261 b0_d261 rfl ?_
    refine Road.aload 263 b0_d263 rfl ?_
    refine Road.iconst 265 (3 : Int32) b0_d265 rfl ?_
    refine Road.iload 266 b0_d266 rfl ?_
    refine Road.callS (B' := bAt) 268 (argsL := [(.ref r), (.ref t), (.int (Nat.toInt32 3)), (.int (Nat.toInt32 ([] : List Int32).length))]) (rest := []) 0 b0_d268 (hw _ (List.mem_of_getElem? (i := 135) rfl)) (hw _ (List.mem_of_getElem? (i := 136) rfl)) (hw _ (List.mem_of_getElem? (i := 2) rfl)) (hw _ (List.mem_of_getElem? (i := 137) rfl)) (by decide) (cAt l Z a0 hw n0 hEW r rd t ([] : List Int32) 3 h_60 σ_61 T F (by decide) cp Hc hcp fm hfm Hf) (lenOf bAt_pd rfl) rfl rfl rfl (by decide) (by decide) (ce' := 7) (sl' := 65) rfl rfl (by decide) (by decide) ?_
    rintro _ h_83 σ_84 m_85 ⟨rfl, rfl⟩
    refine Road.Go.weaken (σ' := σ_61) m_85 (Nat.le_refl _) (Nat.le_refl _) ?_
    refine Road.if_eq 271 472 b0_d271 rfl (fun q => absurd q (by decide)) (fun hc271 => ?_)
    refine Road.aload 274 b0_d274 rfl ?_
    refine Road.aload 276 b0_d276 rfl ?_
    refine Road.iconst 278 (4 : Int32) b0_d278 rfl ?_
    refine Road.iload 279 b0_d279 rfl ?_
    refine Road.callS (B' := bAt) 281 (argsL := [(.ref r), (.ref t), (.int (Nat.toInt32 4)), (.int (Nat.toInt32 ([] : List Int32).length))]) (rest := []) 0 b0_d281 (hw _ (List.mem_of_getElem? (i := 135) rfl)) (hw _ (List.mem_of_getElem? (i := 136) rfl)) (hw _ (List.mem_of_getElem? (i := 2) rfl)) (hw _ (List.mem_of_getElem? (i := 137) rfl)) (by decide) (cAt l Z a0 hw n0 hEW r rd t ([] : List Int32) 4 h_60 σ_61 T F (by decide) cp Hc hcp fm hfm Hf) (lenOf bAt_pd rfl) rfl rfl rfl (by decide) (by decide) (ce' := 7) (sl' := 65) rfl rfl (by decide) (by decide) ?_
    rintro _ h_87 σ_88 m_89 ⟨rfl, rfl⟩
    refine Road.Go.weaken (σ' := σ_61) m_89 (Nat.le_refl _) (Nat.le_refl _) ?_
    refine Road.if_eq 284 472 b0_d284 rfl (fun q => absurd q (by decide)) (fun hc284 => ?_)
    refine Road.aload 287 b0_d287 rfl ?_
    refine Road.aload 289 b0_d289 rfl ?_
    refine Road.iconst 291 (5 : Int32) b0_d291 rfl ?_
    refine Road.iload 292 b0_d292 rfl ?_
    refine Road.callS (B' := bAt) 294 (argsL := [(.ref r), (.ref t), (.int (Nat.toInt32 5)), (.int (Nat.toInt32 ([] : List Int32).length))]) (rest := []) 0 b0_d294 (hw _ (List.mem_of_getElem? (i := 135) rfl)) (hw _ (List.mem_of_getElem? (i := 136) rfl)) (hw _ (List.mem_of_getElem? (i := 2) rfl)) (hw _ (List.mem_of_getElem? (i := 137) rfl)) (by decide) (cAt l Z a0 hw n0 hEW r rd t ([] : List Int32) 5 h_60 σ_61 T F (by decide) cp Hc hcp fm hfm Hf) (lenOf bAt_pd rfl) rfl rfl rfl (by decide) (by decide) (ce' := 7) (sl' := 65) rfl rfl (by decide) (by decide) ?_
    rintro _ h_91 σ_92 m_93 ⟨rfl, rfl⟩
    refine Road.Go.weaken (σ' := σ_61) m_93 (Nat.le_refl _) (Nat.le_refl _) ?_
    refine Road.if_eq 297 472 b0_d297 rfl (fun q => absurd q (by decide)) (fun hc297 => ?_)
    refine Road.aload 300 b0_d300 rfl ?_
    refine Road.aload 302 b0_d302 rfl ?_
    refine Road.bipush 304 (6 : Int32) b0_d304 rfl ?_
    refine Road.iload 306 b0_d306 rfl ?_
    refine Road.callS (B' := bAt) 308 (argsL := [(.ref r), (.ref t), (.int (Nat.toInt32 6)), (.int (Nat.toInt32 ([] : List Int32).length))]) (rest := []) 0 b0_d308 (hw _ (List.mem_of_getElem? (i := 135) rfl)) (hw _ (List.mem_of_getElem? (i := 136) rfl)) (hw _ (List.mem_of_getElem? (i := 2) rfl)) (hw _ (List.mem_of_getElem? (i := 137) rfl)) (by decide) (cAt l Z a0 hw n0 hEW r rd t ([] : List Int32) 6 h_60 σ_61 T F (by decide) cp Hc hcp fm hfm Hf) (lenOf bAt_pd rfl) rfl rfl rfl (by decide) (by decide) (ce' := 7) (sl' := 65) rfl rfl (by decide) (by decide) ?_
    rintro _ h_95 σ_96 m_97 ⟨rfl, rfl⟩
    refine Road.Go.weaken (σ' := σ_61) m_97 (Nat.le_refl _) (Nat.le_refl _) ?_
    refine Road.if_eq 311 472 b0_d311 rfl (fun q => absurd q (by decide)) (fun hc311 => ?_)
    refine Road.aload 314 b0_d314 rfl ?_
    refine Road.aload 316 b0_d316 rfl ?_
    refine Road.bipush 318 (7 : Int32) b0_d318 rfl ?_
    refine Road.iload 320 b0_d320 rfl ?_
    refine Road.callS (B' := bAt) 322 (argsL := [(.ref r), (.ref t), (.int (Nat.toInt32 7)), (.int (Nat.toInt32 ([] : List Int32).length))]) (rest := []) 0 b0_d322 (hw _ (List.mem_of_getElem? (i := 135) rfl)) (hw _ (List.mem_of_getElem? (i := 136) rfl)) (hw _ (List.mem_of_getElem? (i := 2) rfl)) (hw _ (List.mem_of_getElem? (i := 137) rfl)) (by decide) (cAt l Z a0 hw n0 hEW r rd t ([] : List Int32) 7 h_60 σ_61 T F (by decide) cp Hc hcp fm hfm Hf) (lenOf bAt_pd rfl) rfl rfl rfl (by decide) (by decide) (ce' := 7) (sl' := 65) rfl rfl (by decide) (by decide) ?_
    rintro _ h_99 σ_100 m_101 ⟨rfl, rfl⟩
    refine Road.Go.weaken (σ' := σ_61) m_101 (Nat.le_refl _) (Nat.le_refl _) ?_
    refine Road.if_eq 325 472 b0_d325 rfl (fun q => absurd q (by decide)) (fun hc325 => ?_)
    refine Road.aload 328 b0_d328 rfl ?_
    refine Road.aload 330 b0_d330 rfl ?_
    refine Road.bipush 332 (8 : Int32) b0_d332 rfl ?_
    refine Road.iload 334 b0_d334 rfl ?_
    refine Road.callS (B' := bAt) 336 (argsL := [(.ref r), (.ref t), (.int (Nat.toInt32 8)), (.int (Nat.toInt32 ([] : List Int32).length))]) (rest := []) 0 b0_d336 (hw _ (List.mem_of_getElem? (i := 135) rfl)) (hw _ (List.mem_of_getElem? (i := 136) rfl)) (hw _ (List.mem_of_getElem? (i := 2) rfl)) (hw _ (List.mem_of_getElem? (i := 137) rfl)) (by decide) (cAt l Z a0 hw n0 hEW r rd t ([] : List Int32) 8 h_60 σ_61 T F (by decide) cp Hc hcp fm hfm Hf) (lenOf bAt_pd rfl) rfl rfl rfl (by decide) (by decide) (ce' := 7) (sl' := 65) rfl rfl (by decide) (by decide) ?_
    rintro _ h_103 σ_104 m_105 ⟨rfl, rfl⟩
    refine Road.Go.weaken (σ' := σ_61) m_105 (Nat.le_refl _) (Nat.le_refl _) ?_
    refine Road.if_eq 339 472 b0_d339 rfl (fun q => absurd q (by decide)) (fun hc339 => ?_)
    refine Road.aload 342 b0_d342 rfl ?_
    refine Road.aload 344 b0_d344 rfl ?_
    refine Road.bipush 346 (9 : Int32) b0_d346 rfl ?_
    refine Road.iload 348 b0_d348 rfl ?_
    refine Road.callS (B' := bAt) 350 (argsL := [(.ref r), (.ref t), (.int (Nat.toInt32 9)), (.int (Nat.toInt32 ([] : List Int32).length))]) (rest := []) 0 b0_d350 (hw _ (List.mem_of_getElem? (i := 135) rfl)) (hw _ (List.mem_of_getElem? (i := 136) rfl)) (hw _ (List.mem_of_getElem? (i := 2) rfl)) (hw _ (List.mem_of_getElem? (i := 137) rfl)) (by decide) (cAt l Z a0 hw n0 hEW r rd t ([] : List Int32) 9 h_60 σ_61 T F (by decide) cp Hc hcp fm hfm Hf) (lenOf bAt_pd rfl) rfl rfl rfl (by decide) (by decide) (ce' := 7) (sl' := 65) rfl rfl (by decide) (by decide) ?_
    rintro _ h_107 σ_108 m_109 ⟨rfl, rfl⟩
    refine Road.Go.weaken (σ' := σ_61) m_109 (Nat.le_refl _) (Nat.le_refl _) ?_
    refine Road.if_eq 353 472 b0_d353 rfl (fun q => absurd q (by decide)) (fun hc353 => ?_)
    refine Road.aload 356 b0_d356 rfl ?_
    refine Road.aload 358 b0_d358 rfl ?_
    refine Road.bipush 360 (10 : Int32) b0_d360 rfl ?_
    refine Road.iload 362 b0_d362 rfl ?_
    refine Road.callS (B' := bAt) 364 (argsL := [(.ref r), (.ref t), (.int (Nat.toInt32 10)), (.int (Nat.toInt32 ([] : List Int32).length))]) (rest := []) 0 b0_d364 (hw _ (List.mem_of_getElem? (i := 135) rfl)) (hw _ (List.mem_of_getElem? (i := 136) rfl)) (hw _ (List.mem_of_getElem? (i := 2) rfl)) (hw _ (List.mem_of_getElem? (i := 137) rfl)) (by decide) (cAt l Z a0 hw n0 hEW r rd t ([] : List Int32) 10 h_60 σ_61 T F (by decide) cp Hc hcp fm hfm Hf) (lenOf bAt_pd rfl) rfl rfl rfl (by decide) (by decide) (ce' := 7) (sl' := 65) rfl rfl (by decide) (by decide) ?_
    rintro _ h_111 σ_112 m_113 ⟨rfl, rfl⟩
    refine Road.Go.weaken (σ' := σ_61) m_113 (Nat.le_refl _) (Nat.le_refl _) ?_
    refine Road.if_eq 367 472 b0_d367 rfl (fun q => absurd q (by decide)) (fun hc367 => ?_)
    refine Road.aload 370 b0_d370 rfl ?_
    refine Road.aload 372 b0_d372 rfl ?_
    refine Road.bipush 374 (11 : Int32) b0_d374 rfl ?_
    refine Road.iload 376 b0_d376 rfl ?_
    refine Road.callS (B' := bAt) 378 (argsL := [(.ref r), (.ref t), (.int (Nat.toInt32 11)), (.int (Nat.toInt32 ([] : List Int32).length))]) (rest := []) 0 b0_d378 (hw _ (List.mem_of_getElem? (i := 135) rfl)) (hw _ (List.mem_of_getElem? (i := 136) rfl)) (hw _ (List.mem_of_getElem? (i := 2) rfl)) (hw _ (List.mem_of_getElem? (i := 137) rfl)) (by decide) (cAt l Z a0 hw n0 hEW r rd t ([] : List Int32) 11 h_60 σ_61 T F (by decide) cp Hc hcp fm hfm Hf) (lenOf bAt_pd rfl) rfl rfl rfl (by decide) (by decide) (ce' := 7) (sl' := 65) rfl rfl (by decide) (by decide) ?_
    rintro _ h_115 σ_116 m_117 ⟨rfl, rfl⟩
    refine Road.Go.weaken (σ' := σ_61) m_117 (Nat.le_refl _) (Nat.le_refl _) ?_
    refine Road.if_eq 381 472 b0_d381 rfl (fun q => absurd q (by decide)) (fun hc381 => ?_)
    refine Road.aload 384 b0_d384 rfl ?_
    refine Road.aload 386 b0_d386 rfl ?_
    refine Road.bipush 388 (12 : Int32) b0_d388 rfl ?_
    refine Road.iload 390 b0_d390 rfl ?_
    refine Road.callS (B' := bAt) 392 (argsL := [(.ref r), (.ref t), (.int (Nat.toInt32 12)), (.int (Nat.toInt32 ([] : List Int32).length))]) (rest := []) 0 b0_d392 (hw _ (List.mem_of_getElem? (i := 135) rfl)) (hw _ (List.mem_of_getElem? (i := 136) rfl)) (hw _ (List.mem_of_getElem? (i := 2) rfl)) (hw _ (List.mem_of_getElem? (i := 137) rfl)) (by decide) (cAt l Z a0 hw n0 hEW r rd t ([] : List Int32) 12 h_60 σ_61 T F (by decide) cp Hc hcp fm hfm Hf) (lenOf bAt_pd rfl) rfl rfl rfl (by decide) (by decide) (ce' := 7) (sl' := 65) rfl rfl (by decide) (by decide) ?_
    rintro _ h_119 σ_120 m_121 ⟨rfl, rfl⟩
    refine Road.Go.weaken (σ' := σ_61) m_121 (Nat.le_refl _) (Nat.le_refl _) ?_
    refine Road.if_eq 395 472 b0_d395 rfl (fun q => absurd q (by decide)) (fun hc395 => ?_)
    refine Road.aload 398 b0_d398 rfl ?_
    refine Road.aload 400 b0_d400 rfl ?_
    refine Road.bipush 402 (13 : Int32) b0_d402 rfl ?_
    refine Road.iload 404 b0_d404 rfl ?_
    refine Road.callS (B' := bAt) 406 (argsL := [(.ref r), (.ref t), (.int (Nat.toInt32 13)), (.int (Nat.toInt32 ([] : List Int32).length))]) (rest := []) 0 b0_d406 (hw _ (List.mem_of_getElem? (i := 135) rfl)) (hw _ (List.mem_of_getElem? (i := 136) rfl)) (hw _ (List.mem_of_getElem? (i := 2) rfl)) (hw _ (List.mem_of_getElem? (i := 137) rfl)) (by decide) (cAt l Z a0 hw n0 hEW r rd t ([] : List Int32) 13 h_60 σ_61 T F (by decide) cp Hc hcp fm hfm Hf) (lenOf bAt_pd rfl) rfl rfl rfl (by decide) (by decide) (ce' := 7) (sl' := 65) rfl rfl (by decide) (by decide) ?_
    rintro _ h_123 σ_124 m_125 ⟨rfl, rfl⟩
    refine Road.Go.weaken (σ' := σ_61) m_125 (Nat.le_refl _) (Nat.le_refl _) ?_
    refine Road.if_eq 409 472 b0_d409 rfl (fun q => absurd q (by decide)) (fun hc409 => ?_)
    refine Road.aload 412 b0_d412 rfl ?_
    refine Road.aload 414 b0_d414 rfl ?_
    refine Road.bipush 416 (14 : Int32) b0_d416 rfl ?_
    refine Road.iload 418 b0_d418 rfl ?_
    refine Road.callS (B' := bAt) 420 (argsL := [(.ref r), (.ref t), (.int (Nat.toInt32 14)), (.int (Nat.toInt32 ([] : List Int32).length))]) (rest := []) 0 b0_d420 (hw _ (List.mem_of_getElem? (i := 135) rfl)) (hw _ (List.mem_of_getElem? (i := 136) rfl)) (hw _ (List.mem_of_getElem? (i := 2) rfl)) (hw _ (List.mem_of_getElem? (i := 137) rfl)) (by decide) (cAt l Z a0 hw n0 hEW r rd t ([] : List Int32) 14 h_60 σ_61 T F (by decide) cp Hc hcp fm hfm Hf) (lenOf bAt_pd rfl) rfl rfl rfl (by decide) (by decide) (ce' := 7) (sl' := 65) rfl rfl (by decide) (by decide) ?_
    rintro _ h_127 σ_128 m_129 ⟨rfl, rfl⟩
    refine Road.Go.weaken (σ' := σ_61) m_129 (Nat.le_refl _) (Nat.le_refl _) ?_
    refine Road.if_eq 423 472 b0_d423 rfl (fun q => absurd q (by decide)) (fun hc423 => ?_)
    refine Road.aload 426 b0_d426 rfl ?_
    refine Road.aload 428 b0_d428 rfl ?_
    refine Road.bipush 430 (15 : Int32) b0_d430 rfl ?_
    refine Road.iload 432 b0_d432 rfl ?_
    refine Road.callS (B' := bAt) 434 (argsL := [(.ref r), (.ref t), (.int (Nat.toInt32 15)), (.int (Nat.toInt32 ([] : List Int32).length))]) (rest := []) 0 b0_d434 (hw _ (List.mem_of_getElem? (i := 135) rfl)) (hw _ (List.mem_of_getElem? (i := 136) rfl)) (hw _ (List.mem_of_getElem? (i := 2) rfl)) (hw _ (List.mem_of_getElem? (i := 137) rfl)) (by decide) (cAt l Z a0 hw n0 hEW r rd t ([] : List Int32) 15 h_60 σ_61 T F (by decide) cp Hc hcp fm hfm Hf) (lenOf bAt_pd rfl) rfl rfl rfl (by decide) (by decide) (ce' := 7) (sl' := 65) rfl rfl (by decide) (by decide) ?_
    rintro _ h_131 σ_132 m_133 ⟨rfl, rfl⟩
    refine Road.Go.weaken (σ' := σ_61) m_133 (Nat.le_refl _) (Nat.le_refl _) ?_
    refine Road.if_eq 437 472 b0_d437 rfl (fun q => absurd q (by decide)) (fun hc437 => ?_)
    refine Road.aload 440 b0_d440 rfl ?_
    refine Road.aload 442 b0_d442 rfl ?_
    refine Road.bipush 444 (16 : Int32) b0_d444 rfl ?_
    refine Road.iload 446 b0_d446 rfl ?_
    refine Road.callS (B' := bAt) 448 (argsL := [(.ref r), (.ref t), (.int (Nat.toInt32 16)), (.int (Nat.toInt32 ([] : List Int32).length))]) (rest := []) 0 b0_d448 (hw _ (List.mem_of_getElem? (i := 135) rfl)) (hw _ (List.mem_of_getElem? (i := 136) rfl)) (hw _ (List.mem_of_getElem? (i := 2) rfl)) (hw _ (List.mem_of_getElem? (i := 137) rfl)) (by decide) (cAt l Z a0 hw n0 hEW r rd t ([] : List Int32) 16 h_60 σ_61 T F (by decide) cp Hc hcp fm hfm Hf) (lenOf bAt_pd rfl) rfl rfl rfl (by decide) (by decide) (ce' := 7) (sl' := 65) rfl rfl (by decide) (by decide) ?_
    rintro _ h_135 σ_136 m_137 ⟨rfl, rfl⟩
    refine Road.Go.weaken (σ' := σ_61) m_137 (Nat.le_refl _) (Nat.le_refl _) ?_
    refine Road.if_eq 451 472 b0_d451 rfl (fun q => absurd q (by decide)) (fun hc451 => ?_)
    refine Road.aload 454 b0_d454 rfl ?_
    refine Road.aload 456 b0_d456 rfl ?_
    refine Road.bipush 458 (17 : Int32) b0_d458 rfl ?_
    refine Road.iload 460 b0_d460 rfl ?_
    refine Road.callS (B' := bAt) 462 (argsL := [(.ref r), (.ref t), (.int (Nat.toInt32 17)), (.int (Nat.toInt32 ([] : List Int32).length))]) (rest := []) 0 b0_d462 (hw _ (List.mem_of_getElem? (i := 135) rfl)) (hw _ (List.mem_of_getElem? (i := 136) rfl)) (hw _ (List.mem_of_getElem? (i := 2) rfl)) (hw _ (List.mem_of_getElem? (i := 137) rfl)) (by decide) (cAt l Z a0 hw n0 hEW r rd t ([] : List Int32) 17 h_60 σ_61 T F (by decide) cp Hc hcp fm hfm Hf) (lenOf bAt_pd rfl) rfl rfl rfl (by decide) (by decide) (ce' := 7) (sl' := 65) rfl rfl (by decide) (by decide) ?_
    rintro _ h_139 σ_140 m_141 ⟨rfl, rfl⟩
    refine Road.Go.weaken (σ' := σ_61) m_141 (Nat.le_refl _) (Nat.le_refl _) ?_
    refine Road.if_eq 465 472 b0_d465 rfl (fun q => absurd q (by decide)) (fun hc465 => ?_)
    refine Road.iconst 468 (1 : Int32) b0_d468 rfl ?_
    refine Road.goto 469 473 b0_d469 rfl ?_
    exact Road.iret 473 1 b0_d473 (t := .boolean) rfl (by simp) rfl (by decide) (by decide) (fun σ' m => rfl)
  · skip
    refine Road.istore 64 #[.val (.int p0), .val (.int p1), .val (.int p2), .val (.int (1 : Int32)), .val (.int k0), .val (.int k1), .val (.int n0c), .val (.int a0c), .val (.int b0c), .val (.int n1c), .val (.int a1c), .val (.int b1c), .unset, .unset, .unset, .unset, .unset] b0_d64 rfl ?_
    refine Road.new 66 "java/util/ArrayList" b0_d66 (hw _ (List.mem_of_getElem? (i := 4) rfl)) (hw _ (List.mem_of_getElem? (i := 5) rfl)) (hw _ (List.mem_of_getElem? (i := 6) rfl)) (ce' := 1) (sl' := 3) rfl rfl (by decide) (by decide) ?_
    intro o h_143 σ_144 g_145 K_146 lt_147 m_148 s_149 uE D_150 M_151
    have um := D_150 (Or.inl (hw _ (List.mem_of_getElem? (i := 26) rfl))) (ty := .int) (by decide)
    have ue := D_150 (Or.inl (hw _ (List.mem_of_getElem? (i := 29) rfl))) (ty := (.array (.object "java/lang/Object"))) (by decide)
    have us := D_150 (Or.inl (hw _ (List.mem_of_getElem? (i := 64) rfl))) (ty := .int) (by decide)
    refine Road.dup 69 b0_d69 ?_
    refine Road.callI (B' := bAlI) (a := o) 70 (argsL := []) (rest := [(.ref o)]) 1 b0_d70 (hw _ (List.mem_of_getElem? (i := 7) rfl)) (hw _ (List.mem_of_getElem? (i := 8) rfl)) (hw _ (List.mem_of_getElem? (i := 6) rfl)) (hw _ (List.mem_of_getElem? (i := 9) rfl)) rfl rfl (by decide) (cAlI l Z a0 hw n0 hEW o h_143 σ_144 uE um ue us s_149 da HDa ADa) (lenOf bAlI_pd rfl) rfl rfl rfl (by decide) (by decide) (ce' := 1) (sl' := 3) rfl rfl (by decide) (by decide) ?_
    rintro _ h_152 σ_153 m_154 ⟨rfl, K_155, um, ue, us⟩
    replace uE := uE.keep K_155
    replace s_149 := m_154 _ s_149
    refine Road.astore 73 #[.val (.int p0), .val (.int p1), .val (.int p2), .val (.int (1 : Int32)), .val (.int k0), .val (.int k1), .val (.int n0c), .val (.int a0c), .val (.int b0c), .val (.int n1c), .val (.int a1c), .val (.int b1c), .val (.ref o), .unset, .unset, .unset, .unset] b0_d73 rfl ?_
    refine Road.new 75 "java/util/ArrayList" b0_d75 (hw _ (List.mem_of_getElem? (i := 4) rfl)) (hw _ (List.mem_of_getElem? (i := 5) rfl)) (hw _ (List.mem_of_getElem? (i := 6) rfl)) (ce' := 2) (sl' := 6) rfl rfl (by decide) (by decide) ?_
    intro p h_157 σ_158 g_159 K_160 lt_161 m_162 s_163 vE D_164 M_165
    have ne_o_p : o ≠ p := Nat.ne_of_lt (Nat.lt_of_lt_of_le uE.lt (Nat.le_of_eq g_159.symm))
    replace uE := uE.keep K_160
    replace um := um.keep K_160 nin0
    replace ue := ue.keep K_160 nin0
    replace us := us.keep K_160 nin0
    replace s_149 := m_162 _ s_149
    have vm := D_164 (Or.inl (hw _ (List.mem_of_getElem? (i := 26) rfl))) (ty := .int) (by decide)
    have ve := D_164 (Or.inl (hw _ (List.mem_of_getElem? (i := 29) rfl))) (ty := (.array (.object "java/lang/Object"))) (by decide)
    have vs := D_164 (Or.inl (hw _ (List.mem_of_getElem? (i := 64) rfl))) (ty := .int) (by decide)
    refine Road.dup 78 b0_d78 ?_
    refine Road.callI (B' := bAlI) (a := p) 79 (argsL := []) (rest := [(.ref p)]) 1 b0_d79 (hw _ (List.mem_of_getElem? (i := 7) rfl)) (hw _ (List.mem_of_getElem? (i := 8) rfl)) (hw _ (List.mem_of_getElem? (i := 6) rfl)) (hw _ (List.mem_of_getElem? (i := 9) rfl)) rfl rfl (by decide) (cAlI l Z a0 hw n0 hEW p h_157 σ_158 vE vm ve vs s_163 da HDa ADa) (lenOf bAlI_pd rfl) rfl rfl rfl (by decide) (by decide) (ce' := 2) (sl' := 6) rfl rfl (by decide) (by decide) ?_
    rintro _ h_166 σ_167 m_168 ⟨rfl, K_169, vm, ve, vs⟩
    replace uE := uE.keep K_169
    replace um := um.keep K_169 (ninS ne_o_p nin0)
    replace ue := ue.keep K_169 (ninS ne_o_p nin0)
    replace us := us.keep K_169 (ninS ne_o_p nin0)
    replace vE := vE.keep K_169
    replace s_149 := m_168 _ s_149
    replace s_163 := m_168 _ s_163
    refine Road.astore 82 #[.val (.int p0), .val (.int p1), .val (.int p2), .val (.int (1 : Int32)), .val (.int k0), .val (.int k1), .val (.int n0c), .val (.int a0c), .val (.int b0c), .val (.int n1c), .val (.int a1c), .val (.int b1c), .val (.ref o), .val (.ref p), .unset, .unset, .unset] b0_d82 rfl ?_
    refine Road.iloadN 84 b0_d84 rfl ?_
    refine Road.iconst 85 (1 : Int32) b0_d85 rfl ?_
    refine Road.icmp_lt 86 115 b0_d86 rfl (fun q => absurd q (by decide)) (fun hc86 => ?_)
    refine Road.aload 89 b0_d89 rfl ?_
    refine Road.iload 91 b0_d91 rfl ?_
    refine Road.callS (B' := bVal) 93 (argsL := [(.int n0c)]) (rest := [(.ref o)]) 1 b0_d93 (hw _ (List.mem_of_getElem? (i := 138) rfl)) (hw _ (List.mem_of_getElem? (i := 139) rfl)) (hw _ (List.mem_of_getElem? (i := 48) rfl)) (hw _ (List.mem_of_getElem? (i := 140) rfl)) (by decide) (cVal l Z a0 hw n0 hEW n0c h_166 σ_167 ln0c cp Hc hcp) (lenOf bVal_pd rfl) rfl rfl rfl (by decide) (by decide) (ce' := 4) (sl' := 11) rfl rfl (by decide) (by decide) ?_
    rintro _ h_172 σ_173 m_174 ⟨u0, d0, rfl, gu0, gd0, K_175, T0⟩
    have ne_o_u0 : o ≠ u0 := Nat.ne_of_lt (Nat.lt_of_lt_of_le uE.lt gu0)
    have ne_p_u0 : p ≠ u0 := Nat.ne_of_lt (Nat.lt_of_lt_of_le vE.lt gu0)
    have ne_o_d0 : o ≠ d0 := Nat.ne_of_lt (Nat.lt_of_lt_of_le uE.lt gd0)
    have ne_p_d0 : p ≠ d0 := Nat.ne_of_lt (Nat.lt_of_lt_of_le vE.lt gd0)
    replace uE := uE.keep K_175
    replace um := um.keep K_175 nin0
    replace ue := ue.keep K_175 nin0
    replace us := us.keep K_175 nin0
    replace vE := vE.keep K_175
    replace vm := vm.keep K_175 nin0
    replace ve := ve.keep K_175 nin0
    replace vs := vs.keep K_175 nin0
    replace s_149 := m_174 _ s_149
    replace s_163 := m_174 _ s_163
    refine Road.callV (B' := bAdd1) (a := o) 96 (argsL := [(.ref u0)]) (rest := []) "java/util/ArrayList" 0 b0_d96 (hw _ (List.mem_of_getElem? (i := 152) rfl)) (hw _ (List.mem_of_getElem? (i := 153) rfl)) (fun vm hz => Road.notFace_sib (args := #[]) (mv (s := D.s.setVm vm) hz (hw _ (List.mem_of_getElem? (i := 155) rfl))) rfl) (hw _ (List.mem_of_getElem? (i := 155) rfl)) (hw _ (List.mem_of_getElem? (i := 154) rfl)) (hw _ (List.mem_of_getElem? (i := 6) rfl)) (hw _ (List.mem_of_getElem? (i := 156) rfl)) (by decide) uE (cAdd1 l Z a0 hw n0 hEW o u0 0 da h_172 σ_173 uE um ue us T0.1 s_149 HDa ADa) (lenOf bAdd1_pd rfl) rfl rfl rfl (by decide) (by decide) (ce' := 5) (sl' := 21) rfl rfl (by decide) (by decide) ?_
    rintro _ h_178 σ_179 m_180 ⟨rfl, K_181, ua, gua, sua, um, ue, us, uA, uO⟩
    have ne_o_ua : o ≠ ua := Nat.ne_of_lt (Nat.lt_of_lt_of_le uE.lt gua)
    have ne_p_ua : p ≠ ua := Nat.ne_of_lt (Nat.lt_of_lt_of_le vE.lt gua)
    have ne_u0_ua : u0 ≠ ua := Nat.ne_of_lt (Nat.lt_of_lt_of_le T0.lt gua)
    have ne_d0_ua : d0 ≠ ua := Nat.ne_of_lt (Nat.lt_of_lt_of_le T0.ltb gua)
    replace uE := uE.keep K_181
    replace vE := vE.keep K_181
    replace vm := vm.keep K_181 (ninS (Ne.symm ne_o_p) nin0)
    replace ve := ve.keep K_181 (ninS (Ne.symm ne_o_p) nin0)
    replace vs := vs.keep K_181 (ninS (Ne.symm ne_o_p) nin0)
    replace T0 := T0.keep K_181 (ninS (Ne.symm ne_o_u0) nin0) (ninS (Ne.symm ne_o_d0) nin0)
    replace s_149 := m_180 _ s_149
    replace s_163 := m_180 _ s_163
    refine Road.pop 99 b0_d99 ?_
    refine Road.aload 100 b0_d100 rfl ?_
    refine Road.iload 102 b0_d102 rfl ?_
    refine Road.iload 104 b0_d104 rfl ?_
    refine Road.iload 106 b0_d106 rfl ?_
    refine Road.callS (B' := bVlu) 108 (argsL := [(.int k0), (.int a0c), (.int b0c)]) (rest := [(.ref p)]) 1 b0_d108 (hw _ (List.mem_of_getElem? (i := 180) rfl)) (hw _ (List.mem_of_getElem? (i := 181) rfl)) (hw _ (List.mem_of_getElem? (i := 2) rfl)) (hw _ (List.mem_of_getElem? (i := 182) rfl)) (by decide) (cVlu l Z a0 hw n0 hEW k0 a0c b0c h_178 σ_179 la0c lb0c hk03 cp Hc hcp) (lenOf bVlu_pd rfl) rfl rfl rfl (by decide) (by decide) (ce' := 8) (sl' := 29) rfl rfl (by decide) (by decide) ?_
    have ps_188 := s_149
    have ps_189 := s_163
    have ps_190 := sua
    rintro _ h_184 σ_185 m_186 ⟨v0, w0, hs0, rfl, K_187, U0, R0, N0⟩
    replace uE := uE.keep K_187
    replace vE := vE.keep K_187
    replace vm := vm.keep K_187 nin0
    replace ve := ve.keep K_187 nin0
    replace vs := vs.keep K_187 nin0
    replace T0 := T0.keep K_187 nin0 nin0
    replace um := um.keep K_187 nin0
    replace ue := ue.keep K_187 nin0
    replace us := us.keep K_187 nin0
    replace uA := uA.keep K_187 nin0
    replace uO := uO.keep K_187
    replace s_149 := m_186 _ s_149
    replace s_163 := m_186 _ s_163
    replace sua := m_186 _ sua
    have ne_o_v0 : o ≠ v0 := (N0 o ps_188).1
    have ne_o_w0 : o ≠ w0 := (N0 o ps_188).2
    have ne_p_v0 : p ≠ v0 := (N0 p ps_189).1
    have ne_p_w0 : p ≠ w0 := (N0 p ps_189).2
    have ne_ua_v0 : ua ≠ v0 := (N0 ua ps_190).1
    have ne_ua_w0 : ua ≠ w0 := (N0 ua ps_190).2
    refine Road.callV (B' := bAdd1) (a := p) 111 (argsL := [(.ref v0)]) (rest := []) "java/util/ArrayList" 0 b0_d111 (hw _ (List.mem_of_getElem? (i := 152) rfl)) (hw _ (List.mem_of_getElem? (i := 153) rfl)) (fun vm hz => Road.notFace_sib (args := #[]) (mv (s := D.s.setVm vm) hz (hw _ (List.mem_of_getElem? (i := 155) rfl))) rfl) (hw _ (List.mem_of_getElem? (i := 155) rfl)) (hw _ (List.mem_of_getElem? (i := 154) rfl)) (hw _ (List.mem_of_getElem? (i := 6) rfl)) (hw _ (List.mem_of_getElem? (i := 156) rfl)) (by decide) vE (cAdd1 l Z a0 hw n0 hEW p v0 0 da h_184 σ_185 vE vm ve vs U0.1 s_163 HDa ADa) (lenOf bAdd1_pd rfl) rfl rfl rfl (by decide) (by decide) (ce' := 9) (sl' := 39) rfl rfl (by decide) (by decide) ?_
    rintro _ h_191 σ_192 m_193 ⟨rfl, K_194, va, gva, sva, vm, ve, vs, vA, vO⟩
    have ne_o_va : o ≠ va := Nat.ne_of_lt (Nat.lt_of_lt_of_le uE.lt gva)
    have ne_p_va : p ≠ va := Nat.ne_of_lt (Nat.lt_of_lt_of_le vE.lt gva)
    have ne_u0_va : u0 ≠ va := Nat.ne_of_lt (Nat.lt_of_lt_of_le T0.lt gva)
    have ne_d0_va : d0 ≠ va := Nat.ne_of_lt (Nat.lt_of_lt_of_le T0.ltb gva)
    have ne_ua_va : ua ≠ va := Nat.ne_of_lt (Nat.lt_of_lt_of_le uA.lt gva)
    have ne_v0_va : v0 ≠ va := Nat.ne_of_lt (Nat.lt_of_lt_of_le U0.lt gva)
    have ne_w0_va : w0 ≠ va := Nat.ne_of_lt (Nat.lt_of_lt_of_le U0.ltb gva)
    replace uE := uE.keep K_194
    replace vE := vE.keep K_194
    replace T0 := T0.keep K_194 (ninS (Ne.symm ne_p_u0) nin0) (ninS (Ne.symm ne_p_d0) nin0)
    replace um := um.keep K_194 (ninS ne_o_p nin0)
    replace ue := ue.keep K_194 (ninS ne_o_p nin0)
    replace us := us.keep K_194 (ninS ne_o_p nin0)
    replace uA := uA.keep K_194 (ninS (Ne.symm ne_p_ua) nin0)
    replace uO := uO.keep K_194
    replace U0 := U0.keep K_194 (ninS (Ne.symm ne_p_v0) nin0) (ninS (Ne.symm ne_p_w0) nin0)
    replace s_149 := m_193 _ s_149
    replace s_163 := m_193 _ s_163
    replace sua := m_193 _ sua
    refine Road.pop 114 b0_d114 ?_
    refine Road.iloadN 115 b0_d115 rfl ?_
    refine Road.iconst 116 (2 : Int32) b0_d116 rfl ?_
    refine Road.icmp_lt 117 146 b0_d117 rfl (fun hc117 => ?_) (fun q => absurd q (by decide))
    refine Road.aload 146 b0_d146 rfl ?_
    refine Road.aload 148 b0_d148 rfl ?_
    refine Road.callS (B' := bLab1) 150 (argsL := [(.ref o), (.ref p)]) (rest := []) 0 b0_d150 (hw _ (List.mem_of_getElem? (i := 30) rfl)) (hw _ (List.mem_of_getElem? (i := 31) rfl)) (hw _ (List.mem_of_getElem? (i := 32) rfl)) (hw _ (List.mem_of_getElem? (i := 33) rfl)) (by decide) (cLab1 l Z a0 hw n0 hEW o p ua va u0 d0 v0 w0 n0c hs0 h_191 σ_192 uE us ue uA vE vs ve vA T0 U0 (rel_len R0) cp Hc hcp fm hfm Hf) (lenOf bLab1_pd rfl) rfl rfl rfl (by decide) (by decide) (ce' := 21) (sl' := 124) rfl rfl (by decide) (by decide) ?_
    rintro _ h_198 σ_199 m_200 ⟨r, rd, rfl, K_201, T⟩
    replace uE := uE.keep K_201
    replace vE := vE.keep K_201
    replace T0 := T0.keep K_201 nin0 nin0
    replace um := um.keep K_201 nin0
    replace ue := ue.keep K_201 nin0
    replace us := us.keep K_201 nin0
    replace uA := uA.keep K_201 nin0
    replace uO := uO.keep K_201
    replace U0 := U0.keep K_201 nin0 nin0
    replace vm := vm.keep K_201 nin0
    replace ve := ve.keep K_201 nin0
    replace vs := vs.keep K_201 nin0
    replace vA := vA.keep K_201 nin0
    replace vO := vO.keep K_201
    replace s_149 := m_200 _ s_149
    replace s_163 := m_200 _ s_163
    replace sua := m_200 _ sua
    replace sva := m_200 _ sva
    refine Road.astore 153 #[.val (.int p0), .val (.int p1), .val (.int p2), .val (.int (1 : Int32)), .val (.int k0), .val (.int k1), .val (.int n0c), .val (.int a0c), .val (.int b0c), .val (.int n1c), .val (.int a1c), .val (.int b1c), .val (.ref o), .val (.ref p), .val (.ref r), .unset, .unset] b0_d153 rfl ?_
    refine Road.bipush 155 (18 : Int32) b0_d155 rfl ?_
    refine Road.newarray 157 .char 18 18 b0_d157 rfl (hw _ (List.mem_of_getElem? (i := 123) rfl)) (by decide) (by decide) (by decide) (ce' := 22) (sl' := 142) rfl rfl (by decide) (by decide) ?_
    intro t h_206 σ_207 g_208 K_209 lt_210 m_211 s_212 At
    have ne_r_t : r ≠ t := Nat.ne_of_lt (Nat.lt_of_lt_of_le T.lt (Nat.le_of_eq g_208.symm))
    have ne_rd_t : rd ≠ t := Nat.ne_of_lt (Nat.lt_of_lt_of_le T.ltb (Nat.le_of_eq g_208.symm))
    replace T := T.keep K_209 nin0 nin0
    replace s_149 := m_211 _ s_149
    replace s_163 := m_211 _ s_163
    replace sua := m_211 _ sua
    replace sva := m_211 _ sva
    have F : Buf Z h_206 t [] := ⟨_, At, rfl⟩
    refine Road.astore 159 #[.val (.int p0), .val (.int p1), .val (.int p2), .val (.int (1 : Int32)), .val (.int k0), .val (.int k1), .val (.int n0c), .val (.int a0c), .val (.int b0c), .val (.int n1c), .val (.int a1c), .val (.int b1c), .val (.ref o), .val (.ref p), .val (.ref r), .val (.ref t), .unset] b0_d159 rfl ?_
    refine Road.iconst 161 (0 : Int32) b0_d161 rfl ?_
    refine Road.istore 162 #[.val (.int p0), .val (.int p1), .val (.int p2), .val (.int (1 : Int32)), .val (.int k0), .val (.int k1), .val (.int n0c), .val (.int a0c), .val (.int b0c), .val (.int n1c), .val (.int a1c), .val (.int b1c), .val (.ref o), .val (.ref p), .val (.ref r), .val (.ref t), .val (.int (0 : Int32))] b0_d162 rfl ?_
    refine Road.iloadN 164 b0_d164 rfl ?_
    refine Road.iconst 165 (1 : Int32) b0_d165 rfl ?_
    refine Road.icmp_lt 166 187 b0_d166 rfl (fun q => absurd q (by decide)) (fun hc166 => ?_)
    refine Road.aload 169 b0_d169 rfl ?_
    refine Road.iload 171 b0_d171 rfl ?_
    refine Road.iconst 173 (1 : Int32) b0_d173 rfl ?_
    refine Road.iload 174 b0_d174 rfl ?_
    refine Road.iload 176 b0_d176 rfl ?_
    refine Road.iload 178 b0_d178 rfl ?_
    refine Road.iload 180 b0_d180 rfl ?_
    refine Road.callS (B' := bLbl) 182 (argsL := [(.ref t), (.int (Nat.toInt32 ([] : List Int32).length)), (.int (1 : Int32)), (.int n0c), (.int k0), (.int a0c), (.int b0c)]) (rest := []) 0 b0_d182 (hw _ (List.mem_of_getElem? (i := 257) rfl)) (hw _ (List.mem_of_getElem? (i := 258) rfl)) (hw _ (List.mem_of_getElem? (i := 2) rfl)) (hw _ (List.mem_of_getElem? (i := 259) rfl)) (by decide) (cLbl1 l Z a0 hw n0 hEW t ([] : List Int32) n0c k0 a0c b0c hs0 h_206 σ_207 F (by simp) ln0c la0c lb0c R0 s_212) (lenOf bLbl_pd rfl) rfl rfl rfl (by decide) (by decide) (ce' := 22) (sl' := 142) rfl rfl (by decide) (by decide) ?_
    rintro _ h_213 σ_214 m_215 ⟨rfl, K_216, F⟩
    replace T := T.keep K_216 (ninS ne_r_t nin0) (ninS ne_rd_t nin0)
    replace s_149 := m_215 _ s_149
    replace s_163 := m_215 _ s_163
    replace sua := m_215 _ sua
    replace sva := m_215 _ sva
    replace s_212 := m_215 _ s_212
    refine Road.istore 185 #[.val (.int p0), .val (.int p1), .val (.int p2), .val (.int (1 : Int32)), .val (.int k0), .val (.int k1), .val (.int n0c), .val (.int a0c), .val (.int b0c), .val (.int n1c), .val (.int a1c), .val (.int b1c), .val (.ref o), .val (.ref p), .val (.ref r), .val (.ref t), .val (.int (Nat.toInt32 (([] : List Int32) ++ labL true n0c hs0).length))] b0_d185 rfl ?_
    refine Road.iloadN 187 b0_d187 rfl ?_
    refine Road.iconst 188 (2 : Int32) b0_d188 rfl ?_
    refine Road.icmp_lt 189 210 b0_d189 rfl (fun hc189 => ?_) (fun q => absurd q (by decide))
    refine Road.aload 210 b0_d210 rfl ?_
    obtain ⟨L, hL⟩ : ∃ L : List Int32, L = (labL true n0c hs0) := ⟨_, rfl⟩
    rw [show (([] : List Int32) ++ labL true n0c hs0) = L from by rw [hL]; simp] at F
    rw [← hL] at T
    rw [show (([] : List Int32) ++ labL true n0c hs0) = L from by rw [hL]; simp]
    refine Road.callV (B' := bLen) (a := r) 212 (argsL := []) (rest := []) "java/lang/String" 0 b0_d212 (hw _ (List.mem_of_getElem? (i := 124) rfl)) (hw _ (List.mem_of_getElem? (i := 125) rfl)) (fun vm hz => Road.notFace_sib (args := #[]) (mv (s := D.s.setVm vm) hz (hw _ (List.mem_of_getElem? (i := 127) rfl))) rfl) (hw _ (List.mem_of_getElem? (i := 127) rfl)) (hw _ (List.mem_of_getElem? (i := 126) rfl)) (hw _ (List.mem_of_getElem? (i := 48) rfl)) (hw _ (List.mem_of_getElem? (i := 128) rfl)) (by decide) T.1 (cLen l Z a0 hw n0 hEW r rd _ h_213 σ_214 T cp Hc hcp) (lenOf bLen_pd rfl) rfl rfl rfl (by decide) (by decide) (ce' := 22) (sl' := 142) rfl rfl (by decide) (by decide) ?_
    rintro _ h_222 σ_223 m_224 ⟨rfl, rfl⟩
    refine Road.Go.weaken (σ' := σ_214) m_224 (Nat.le_refl _) (Nat.le_refl _) ?_
    refine Road.iload 215 b0_d215 rfl ?_
    refine Road.icmp_eq 217 222 b0_d217 rfl (fun hc217 => ?_) (fun q => absurd q (fun nq => nq rfl))
    refine Road.aload 222 b0_d222 rfl ?_
    refine Road.aload 224 b0_d224 rfl ?_
    refine Road.iconst 226 (0 : Int32) b0_d226 rfl ?_
    refine Road.iload 227 b0_d227 rfl ?_
    refine Road.callS (B' := bAt) 229 (argsL := [(.ref r), (.ref t), (.int (Nat.toInt32 0)), (.int (Nat.toInt32 L.length))]) (rest := []) 0 b0_d229 (hw _ (List.mem_of_getElem? (i := 135) rfl)) (hw _ (List.mem_of_getElem? (i := 136) rfl)) (hw _ (List.mem_of_getElem? (i := 2) rfl)) (hw _ (List.mem_of_getElem? (i := 137) rfl)) (by decide) (cAt l Z a0 hw n0 hEW r rd t L 0 h_213 σ_214 T F (by decide) cp Hc hcp fm hfm Hf) (lenOf bAt_pd rfl) rfl rfl rfl (by decide) (by decide) (ce' := 22) (sl' := 142) rfl rfl (by decide) (by decide) ?_
    rintro _ h_226 σ_227 m_228 ⟨rfl, rfl⟩
    refine Road.Go.weaken (σ' := σ_214) m_228 (Nat.le_refl _) (Nat.le_refl _) ?_
    refine Road.if_eq 232 472 b0_d232 rfl (fun q => absurd q (by decide)) (fun hc232 => ?_)
    refine Road.aload 235 b0_d235 rfl ?_
    refine Road.aload 237 b0_d237 rfl ?_
    refine Road.iconst 239 (1 : Int32) b0_d239 rfl ?_
    refine Road.iload 240 b0_d240 rfl ?_
    refine Road.callS (B' := bAt) 242 (argsL := [(.ref r), (.ref t), (.int (Nat.toInt32 1)), (.int (Nat.toInt32 L.length))]) (rest := []) 0 b0_d242 (hw _ (List.mem_of_getElem? (i := 135) rfl)) (hw _ (List.mem_of_getElem? (i := 136) rfl)) (hw _ (List.mem_of_getElem? (i := 2) rfl)) (hw _ (List.mem_of_getElem? (i := 137) rfl)) (by decide) (cAt l Z a0 hw n0 hEW r rd t L 1 h_213 σ_214 T F (by decide) cp Hc hcp fm hfm Hf) (lenOf bAt_pd rfl) rfl rfl rfl (by decide) (by decide) (ce' := 22) (sl' := 142) rfl rfl (by decide) (by decide) ?_
    rintro _ h_230 σ_231 m_232 ⟨rfl, rfl⟩
    refine Road.Go.weaken (σ' := σ_214) m_232 (Nat.le_refl _) (Nat.le_refl _) ?_
    refine Road.if_eq 245 472 b0_d245 rfl (fun q => absurd q (by decide)) (fun hc245 => ?_)
    refine Road.aload 248 b0_d248 rfl ?_
    refine Road.aload 250 b0_d250 rfl ?_
    refine Road.iconst 252 (2 : Int32) b0_d252 rfl ?_
    refine Road.iload 253 b0_d253 rfl ?_
    refine Road.callS (B' := bAt) 255 (argsL := [(.ref r), (.ref t), (.int (Nat.toInt32 2)), (.int (Nat.toInt32 L.length))]) (rest := []) 0 b0_d255 (hw _ (List.mem_of_getElem? (i := 135) rfl)) (hw _ (List.mem_of_getElem? (i := 136) rfl)) (hw _ (List.mem_of_getElem? (i := 2) rfl)) (hw _ (List.mem_of_getElem? (i := 137) rfl)) (by decide) (cAt l Z a0 hw n0 hEW r rd t L 2 h_213 σ_214 T F (by decide) cp Hc hcp fm hfm Hf) (lenOf bAt_pd rfl) rfl rfl rfl (by decide) (by decide) (ce' := 22) (sl' := 142) rfl rfl (by decide) (by decide) ?_
    rintro _ h_234 σ_235 m_236 ⟨rfl, rfl⟩
    refine Road.Go.weaken (σ' := σ_214) m_236 (Nat.le_refl _) (Nat.le_refl _) ?_
    refine Road.if_eq 258 472 b0_d258 rfl (fun q => absurd q (by decide)) (fun hc258 => ?_)
    refine Road.aload 261 b0_d261 rfl ?_
    refine Road.aload 263 b0_d263 rfl ?_
    refine Road.iconst 265 (3 : Int32) b0_d265 rfl ?_
    refine Road.iload 266 b0_d266 rfl ?_
    refine Road.callS (B' := bAt) 268 (argsL := [(.ref r), (.ref t), (.int (Nat.toInt32 3)), (.int (Nat.toInt32 L.length))]) (rest := []) 0 b0_d268 (hw _ (List.mem_of_getElem? (i := 135) rfl)) (hw _ (List.mem_of_getElem? (i := 136) rfl)) (hw _ (List.mem_of_getElem? (i := 2) rfl)) (hw _ (List.mem_of_getElem? (i := 137) rfl)) (by decide) (cAt l Z a0 hw n0 hEW r rd t L 3 h_213 σ_214 T F (by decide) cp Hc hcp fm hfm Hf) (lenOf bAt_pd rfl) rfl rfl rfl (by decide) (by decide) (ce' := 22) (sl' := 142) rfl rfl (by decide) (by decide) ?_
    rintro _ h_238 σ_239 m_240 ⟨rfl, rfl⟩
    refine Road.Go.weaken (σ' := σ_214) m_240 (Nat.le_refl _) (Nat.le_refl _) ?_
    refine Road.if_eq 271 472 b0_d271 rfl (fun q => absurd q (by decide)) (fun hc271 => ?_)
    refine Road.aload 274 b0_d274 rfl ?_
    refine Road.aload 276 b0_d276 rfl ?_
    refine Road.iconst 278 (4 : Int32) b0_d278 rfl ?_
    refine Road.iload 279 b0_d279 rfl ?_
    refine Road.callS (B' := bAt) 281 (argsL := [(.ref r), (.ref t), (.int (Nat.toInt32 4)), (.int (Nat.toInt32 L.length))]) (rest := []) 0 b0_d281 (hw _ (List.mem_of_getElem? (i := 135) rfl)) (hw _ (List.mem_of_getElem? (i := 136) rfl)) (hw _ (List.mem_of_getElem? (i := 2) rfl)) (hw _ (List.mem_of_getElem? (i := 137) rfl)) (by decide) (cAt l Z a0 hw n0 hEW r rd t L 4 h_213 σ_214 T F (by decide) cp Hc hcp fm hfm Hf) (lenOf bAt_pd rfl) rfl rfl rfl (by decide) (by decide) (ce' := 22) (sl' := 142) rfl rfl (by decide) (by decide) ?_
    rintro _ h_242 σ_243 m_244 ⟨rfl, rfl⟩
    refine Road.Go.weaken (σ' := σ_214) m_244 (Nat.le_refl _) (Nat.le_refl _) ?_
    refine Road.if_eq 284 472 b0_d284 rfl (fun q => absurd q (by decide)) (fun hc284 => ?_)
    refine Road.aload 287 b0_d287 rfl ?_
    refine Road.aload 289 b0_d289 rfl ?_
    refine Road.iconst 291 (5 : Int32) b0_d291 rfl ?_
    refine Road.iload 292 b0_d292 rfl ?_
    refine Road.callS (B' := bAt) 294 (argsL := [(.ref r), (.ref t), (.int (Nat.toInt32 5)), (.int (Nat.toInt32 L.length))]) (rest := []) 0 b0_d294 (hw _ (List.mem_of_getElem? (i := 135) rfl)) (hw _ (List.mem_of_getElem? (i := 136) rfl)) (hw _ (List.mem_of_getElem? (i := 2) rfl)) (hw _ (List.mem_of_getElem? (i := 137) rfl)) (by decide) (cAt l Z a0 hw n0 hEW r rd t L 5 h_213 σ_214 T F (by decide) cp Hc hcp fm hfm Hf) (lenOf bAt_pd rfl) rfl rfl rfl (by decide) (by decide) (ce' := 22) (sl' := 142) rfl rfl (by decide) (by decide) ?_
    rintro _ h_246 σ_247 m_248 ⟨rfl, rfl⟩
    refine Road.Go.weaken (σ' := σ_214) m_248 (Nat.le_refl _) (Nat.le_refl _) ?_
    refine Road.if_eq 297 472 b0_d297 rfl (fun q => absurd q (by decide)) (fun hc297 => ?_)
    refine Road.aload 300 b0_d300 rfl ?_
    refine Road.aload 302 b0_d302 rfl ?_
    refine Road.bipush 304 (6 : Int32) b0_d304 rfl ?_
    refine Road.iload 306 b0_d306 rfl ?_
    refine Road.callS (B' := bAt) 308 (argsL := [(.ref r), (.ref t), (.int (Nat.toInt32 6)), (.int (Nat.toInt32 L.length))]) (rest := []) 0 b0_d308 (hw _ (List.mem_of_getElem? (i := 135) rfl)) (hw _ (List.mem_of_getElem? (i := 136) rfl)) (hw _ (List.mem_of_getElem? (i := 2) rfl)) (hw _ (List.mem_of_getElem? (i := 137) rfl)) (by decide) (cAt l Z a0 hw n0 hEW r rd t L 6 h_213 σ_214 T F (by decide) cp Hc hcp fm hfm Hf) (lenOf bAt_pd rfl) rfl rfl rfl (by decide) (by decide) (ce' := 22) (sl' := 142) rfl rfl (by decide) (by decide) ?_
    rintro _ h_250 σ_251 m_252 ⟨rfl, rfl⟩
    refine Road.Go.weaken (σ' := σ_214) m_252 (Nat.le_refl _) (Nat.le_refl _) ?_
    refine Road.if_eq 311 472 b0_d311 rfl (fun q => absurd q (by decide)) (fun hc311 => ?_)
    refine Road.aload 314 b0_d314 rfl ?_
    refine Road.aload 316 b0_d316 rfl ?_
    refine Road.bipush 318 (7 : Int32) b0_d318 rfl ?_
    refine Road.iload 320 b0_d320 rfl ?_
    refine Road.callS (B' := bAt) 322 (argsL := [(.ref r), (.ref t), (.int (Nat.toInt32 7)), (.int (Nat.toInt32 L.length))]) (rest := []) 0 b0_d322 (hw _ (List.mem_of_getElem? (i := 135) rfl)) (hw _ (List.mem_of_getElem? (i := 136) rfl)) (hw _ (List.mem_of_getElem? (i := 2) rfl)) (hw _ (List.mem_of_getElem? (i := 137) rfl)) (by decide) (cAt l Z a0 hw n0 hEW r rd t L 7 h_213 σ_214 T F (by decide) cp Hc hcp fm hfm Hf) (lenOf bAt_pd rfl) rfl rfl rfl (by decide) (by decide) (ce' := 22) (sl' := 142) rfl rfl (by decide) (by decide) ?_
    rintro _ h_254 σ_255 m_256 ⟨rfl, rfl⟩
    refine Road.Go.weaken (σ' := σ_214) m_256 (Nat.le_refl _) (Nat.le_refl _) ?_
    refine Road.if_eq 325 472 b0_d325 rfl (fun q => absurd q (by decide)) (fun hc325 => ?_)
    refine Road.aload 328 b0_d328 rfl ?_
    refine Road.aload 330 b0_d330 rfl ?_
    refine Road.bipush 332 (8 : Int32) b0_d332 rfl ?_
    refine Road.iload 334 b0_d334 rfl ?_
    refine Road.callS (B' := bAt) 336 (argsL := [(.ref r), (.ref t), (.int (Nat.toInt32 8)), (.int (Nat.toInt32 L.length))]) (rest := []) 0 b0_d336 (hw _ (List.mem_of_getElem? (i := 135) rfl)) (hw _ (List.mem_of_getElem? (i := 136) rfl)) (hw _ (List.mem_of_getElem? (i := 2) rfl)) (hw _ (List.mem_of_getElem? (i := 137) rfl)) (by decide) (cAt l Z a0 hw n0 hEW r rd t L 8 h_213 σ_214 T F (by decide) cp Hc hcp fm hfm Hf) (lenOf bAt_pd rfl) rfl rfl rfl (by decide) (by decide) (ce' := 22) (sl' := 142) rfl rfl (by decide) (by decide) ?_
    rintro _ h_258 σ_259 m_260 ⟨rfl, rfl⟩
    refine Road.Go.weaken (σ' := σ_214) m_260 (Nat.le_refl _) (Nat.le_refl _) ?_
    refine Road.if_eq 339 472 b0_d339 rfl (fun q => absurd q (by decide)) (fun hc339 => ?_)
    refine Road.aload 342 b0_d342 rfl ?_
    refine Road.aload 344 b0_d344 rfl ?_
    refine Road.bipush 346 (9 : Int32) b0_d346 rfl ?_
    refine Road.iload 348 b0_d348 rfl ?_
    refine Road.callS (B' := bAt) 350 (argsL := [(.ref r), (.ref t), (.int (Nat.toInt32 9)), (.int (Nat.toInt32 L.length))]) (rest := []) 0 b0_d350 (hw _ (List.mem_of_getElem? (i := 135) rfl)) (hw _ (List.mem_of_getElem? (i := 136) rfl)) (hw _ (List.mem_of_getElem? (i := 2) rfl)) (hw _ (List.mem_of_getElem? (i := 137) rfl)) (by decide) (cAt l Z a0 hw n0 hEW r rd t L 9 h_213 σ_214 T F (by decide) cp Hc hcp fm hfm Hf) (lenOf bAt_pd rfl) rfl rfl rfl (by decide) (by decide) (ce' := 22) (sl' := 142) rfl rfl (by decide) (by decide) ?_
    rintro _ h_262 σ_263 m_264 ⟨rfl, rfl⟩
    refine Road.Go.weaken (σ' := σ_214) m_264 (Nat.le_refl _) (Nat.le_refl _) ?_
    refine Road.if_eq 353 472 b0_d353 rfl (fun q => absurd q (by decide)) (fun hc353 => ?_)
    refine Road.aload 356 b0_d356 rfl ?_
    refine Road.aload 358 b0_d358 rfl ?_
    refine Road.bipush 360 (10 : Int32) b0_d360 rfl ?_
    refine Road.iload 362 b0_d362 rfl ?_
    refine Road.callS (B' := bAt) 364 (argsL := [(.ref r), (.ref t), (.int (Nat.toInt32 10)), (.int (Nat.toInt32 L.length))]) (rest := []) 0 b0_d364 (hw _ (List.mem_of_getElem? (i := 135) rfl)) (hw _ (List.mem_of_getElem? (i := 136) rfl)) (hw _ (List.mem_of_getElem? (i := 2) rfl)) (hw _ (List.mem_of_getElem? (i := 137) rfl)) (by decide) (cAt l Z a0 hw n0 hEW r rd t L 10 h_213 σ_214 T F (by decide) cp Hc hcp fm hfm Hf) (lenOf bAt_pd rfl) rfl rfl rfl (by decide) (by decide) (ce' := 22) (sl' := 142) rfl rfl (by decide) (by decide) ?_
    rintro _ h_266 σ_267 m_268 ⟨rfl, rfl⟩
    refine Road.Go.weaken (σ' := σ_214) m_268 (Nat.le_refl _) (Nat.le_refl _) ?_
    refine Road.if_eq 367 472 b0_d367 rfl (fun q => absurd q (by decide)) (fun hc367 => ?_)
    refine Road.aload 370 b0_d370 rfl ?_
    refine Road.aload 372 b0_d372 rfl ?_
    refine Road.bipush 374 (11 : Int32) b0_d374 rfl ?_
    refine Road.iload 376 b0_d376 rfl ?_
    refine Road.callS (B' := bAt) 378 (argsL := [(.ref r), (.ref t), (.int (Nat.toInt32 11)), (.int (Nat.toInt32 L.length))]) (rest := []) 0 b0_d378 (hw _ (List.mem_of_getElem? (i := 135) rfl)) (hw _ (List.mem_of_getElem? (i := 136) rfl)) (hw _ (List.mem_of_getElem? (i := 2) rfl)) (hw _ (List.mem_of_getElem? (i := 137) rfl)) (by decide) (cAt l Z a0 hw n0 hEW r rd t L 11 h_213 σ_214 T F (by decide) cp Hc hcp fm hfm Hf) (lenOf bAt_pd rfl) rfl rfl rfl (by decide) (by decide) (ce' := 22) (sl' := 142) rfl rfl (by decide) (by decide) ?_
    rintro _ h_270 σ_271 m_272 ⟨rfl, rfl⟩
    refine Road.Go.weaken (σ' := σ_214) m_272 (Nat.le_refl _) (Nat.le_refl _) ?_
    refine Road.if_eq 381 472 b0_d381 rfl (fun q => absurd q (by decide)) (fun hc381 => ?_)
    refine Road.aload 384 b0_d384 rfl ?_
    refine Road.aload 386 b0_d386 rfl ?_
    refine Road.bipush 388 (12 : Int32) b0_d388 rfl ?_
    refine Road.iload 390 b0_d390 rfl ?_
    refine Road.callS (B' := bAt) 392 (argsL := [(.ref r), (.ref t), (.int (Nat.toInt32 12)), (.int (Nat.toInt32 L.length))]) (rest := []) 0 b0_d392 (hw _ (List.mem_of_getElem? (i := 135) rfl)) (hw _ (List.mem_of_getElem? (i := 136) rfl)) (hw _ (List.mem_of_getElem? (i := 2) rfl)) (hw _ (List.mem_of_getElem? (i := 137) rfl)) (by decide) (cAt l Z a0 hw n0 hEW r rd t L 12 h_213 σ_214 T F (by decide) cp Hc hcp fm hfm Hf) (lenOf bAt_pd rfl) rfl rfl rfl (by decide) (by decide) (ce' := 22) (sl' := 142) rfl rfl (by decide) (by decide) ?_
    rintro _ h_274 σ_275 m_276 ⟨rfl, rfl⟩
    refine Road.Go.weaken (σ' := σ_214) m_276 (Nat.le_refl _) (Nat.le_refl _) ?_
    refine Road.if_eq 395 472 b0_d395 rfl (fun q => absurd q (by decide)) (fun hc395 => ?_)
    refine Road.aload 398 b0_d398 rfl ?_
    refine Road.aload 400 b0_d400 rfl ?_
    refine Road.bipush 402 (13 : Int32) b0_d402 rfl ?_
    refine Road.iload 404 b0_d404 rfl ?_
    refine Road.callS (B' := bAt) 406 (argsL := [(.ref r), (.ref t), (.int (Nat.toInt32 13)), (.int (Nat.toInt32 L.length))]) (rest := []) 0 b0_d406 (hw _ (List.mem_of_getElem? (i := 135) rfl)) (hw _ (List.mem_of_getElem? (i := 136) rfl)) (hw _ (List.mem_of_getElem? (i := 2) rfl)) (hw _ (List.mem_of_getElem? (i := 137) rfl)) (by decide) (cAt l Z a0 hw n0 hEW r rd t L 13 h_213 σ_214 T F (by decide) cp Hc hcp fm hfm Hf) (lenOf bAt_pd rfl) rfl rfl rfl (by decide) (by decide) (ce' := 22) (sl' := 142) rfl rfl (by decide) (by decide) ?_
    rintro _ h_278 σ_279 m_280 ⟨rfl, rfl⟩
    refine Road.Go.weaken (σ' := σ_214) m_280 (Nat.le_refl _) (Nat.le_refl _) ?_
    refine Road.if_eq 409 472 b0_d409 rfl (fun q => absurd q (by decide)) (fun hc409 => ?_)
    refine Road.aload 412 b0_d412 rfl ?_
    refine Road.aload 414 b0_d414 rfl ?_
    refine Road.bipush 416 (14 : Int32) b0_d416 rfl ?_
    refine Road.iload 418 b0_d418 rfl ?_
    refine Road.callS (B' := bAt) 420 (argsL := [(.ref r), (.ref t), (.int (Nat.toInt32 14)), (.int (Nat.toInt32 L.length))]) (rest := []) 0 b0_d420 (hw _ (List.mem_of_getElem? (i := 135) rfl)) (hw _ (List.mem_of_getElem? (i := 136) rfl)) (hw _ (List.mem_of_getElem? (i := 2) rfl)) (hw _ (List.mem_of_getElem? (i := 137) rfl)) (by decide) (cAt l Z a0 hw n0 hEW r rd t L 14 h_213 σ_214 T F (by decide) cp Hc hcp fm hfm Hf) (lenOf bAt_pd rfl) rfl rfl rfl (by decide) (by decide) (ce' := 22) (sl' := 142) rfl rfl (by decide) (by decide) ?_
    rintro _ h_282 σ_283 m_284 ⟨rfl, rfl⟩
    refine Road.Go.weaken (σ' := σ_214) m_284 (Nat.le_refl _) (Nat.le_refl _) ?_
    refine Road.if_eq 423 472 b0_d423 rfl (fun q => absurd q (by decide)) (fun hc423 => ?_)
    refine Road.aload 426 b0_d426 rfl ?_
    refine Road.aload 428 b0_d428 rfl ?_
    refine Road.bipush 430 (15 : Int32) b0_d430 rfl ?_
    refine Road.iload 432 b0_d432 rfl ?_
    refine Road.callS (B' := bAt) 434 (argsL := [(.ref r), (.ref t), (.int (Nat.toInt32 15)), (.int (Nat.toInt32 L.length))]) (rest := []) 0 b0_d434 (hw _ (List.mem_of_getElem? (i := 135) rfl)) (hw _ (List.mem_of_getElem? (i := 136) rfl)) (hw _ (List.mem_of_getElem? (i := 2) rfl)) (hw _ (List.mem_of_getElem? (i := 137) rfl)) (by decide) (cAt l Z a0 hw n0 hEW r rd t L 15 h_213 σ_214 T F (by decide) cp Hc hcp fm hfm Hf) (lenOf bAt_pd rfl) rfl rfl rfl (by decide) (by decide) (ce' := 22) (sl' := 142) rfl rfl (by decide) (by decide) ?_
    rintro _ h_286 σ_287 m_288 ⟨rfl, rfl⟩
    refine Road.Go.weaken (σ' := σ_214) m_288 (Nat.le_refl _) (Nat.le_refl _) ?_
    refine Road.if_eq 437 472 b0_d437 rfl (fun q => absurd q (by decide)) (fun hc437 => ?_)
    refine Road.aload 440 b0_d440 rfl ?_
    refine Road.aload 442 b0_d442 rfl ?_
    refine Road.bipush 444 (16 : Int32) b0_d444 rfl ?_
    refine Road.iload 446 b0_d446 rfl ?_
    refine Road.callS (B' := bAt) 448 (argsL := [(.ref r), (.ref t), (.int (Nat.toInt32 16)), (.int (Nat.toInt32 L.length))]) (rest := []) 0 b0_d448 (hw _ (List.mem_of_getElem? (i := 135) rfl)) (hw _ (List.mem_of_getElem? (i := 136) rfl)) (hw _ (List.mem_of_getElem? (i := 2) rfl)) (hw _ (List.mem_of_getElem? (i := 137) rfl)) (by decide) (cAt l Z a0 hw n0 hEW r rd t L 16 h_213 σ_214 T F (by decide) cp Hc hcp fm hfm Hf) (lenOf bAt_pd rfl) rfl rfl rfl (by decide) (by decide) (ce' := 22) (sl' := 142) rfl rfl (by decide) (by decide) ?_
    rintro _ h_290 σ_291 m_292 ⟨rfl, rfl⟩
    refine Road.Go.weaken (σ' := σ_214) m_292 (Nat.le_refl _) (Nat.le_refl _) ?_
    refine Road.if_eq 451 472 b0_d451 rfl (fun q => absurd q (by decide)) (fun hc451 => ?_)
    refine Road.aload 454 b0_d454 rfl ?_
    refine Road.aload 456 b0_d456 rfl ?_
    refine Road.bipush 458 (17 : Int32) b0_d458 rfl ?_
    refine Road.iload 460 b0_d460 rfl ?_
    refine Road.callS (B' := bAt) 462 (argsL := [(.ref r), (.ref t), (.int (Nat.toInt32 17)), (.int (Nat.toInt32 L.length))]) (rest := []) 0 b0_d462 (hw _ (List.mem_of_getElem? (i := 135) rfl)) (hw _ (List.mem_of_getElem? (i := 136) rfl)) (hw _ (List.mem_of_getElem? (i := 2) rfl)) (hw _ (List.mem_of_getElem? (i := 137) rfl)) (by decide) (cAt l Z a0 hw n0 hEW r rd t L 17 h_213 σ_214 T F (by decide) cp Hc hcp fm hfm Hf) (lenOf bAt_pd rfl) rfl rfl rfl (by decide) (by decide) (ce' := 22) (sl' := 142) rfl rfl (by decide) (by decide) ?_
    rintro _ h_294 σ_295 m_296 ⟨rfl, rfl⟩
    refine Road.Go.weaken (σ' := σ_214) m_296 (Nat.le_refl _) (Nat.le_refl _) ?_
    refine Road.if_eq 465 472 b0_d465 rfl (fun q => absurd q (by decide)) (fun hc465 => ?_)
    refine Road.iconst 468 (1 : Int32) b0_d468 rfl ?_
    refine Road.goto 469 473 b0_d469 rfl ?_
    exact Road.iret 473 1 b0_d473 (t := .boolean) rfl (by simp) rfl (by decide) (by decide) (fun σ' m => rfl)
  · skip
    refine Road.istore 64 #[.val (.int p0), .val (.int p1), .val (.int p2), .val (.int (2 : Int32)), .val (.int k0), .val (.int k1), .val (.int n0c), .val (.int a0c), .val (.int b0c), .val (.int n1c), .val (.int a1c), .val (.int b1c), .unset, .unset, .unset, .unset, .unset] b0_d64 rfl ?_
    refine Road.new 66 "java/util/ArrayList" b0_d66 (hw _ (List.mem_of_getElem? (i := 4) rfl)) (hw _ (List.mem_of_getElem? (i := 5) rfl)) (hw _ (List.mem_of_getElem? (i := 6) rfl)) (ce' := 1) (sl' := 3) rfl rfl (by decide) (by decide) ?_
    intro o h_298 σ_299 g_300 K_301 lt_302 m_303 s_304 uE D_305 M_306
    have um := D_305 (Or.inl (hw _ (List.mem_of_getElem? (i := 26) rfl))) (ty := .int) (by decide)
    have ue := D_305 (Or.inl (hw _ (List.mem_of_getElem? (i := 29) rfl))) (ty := (.array (.object "java/lang/Object"))) (by decide)
    have us := D_305 (Or.inl (hw _ (List.mem_of_getElem? (i := 64) rfl))) (ty := .int) (by decide)
    refine Road.dup 69 b0_d69 ?_
    refine Road.callI (B' := bAlI) (a := o) 70 (argsL := []) (rest := [(.ref o)]) 1 b0_d70 (hw _ (List.mem_of_getElem? (i := 7) rfl)) (hw _ (List.mem_of_getElem? (i := 8) rfl)) (hw _ (List.mem_of_getElem? (i := 6) rfl)) (hw _ (List.mem_of_getElem? (i := 9) rfl)) rfl rfl (by decide) (cAlI l Z a0 hw n0 hEW o h_298 σ_299 uE um ue us s_304 da HDa ADa) (lenOf bAlI_pd rfl) rfl rfl rfl (by decide) (by decide) (ce' := 1) (sl' := 3) rfl rfl (by decide) (by decide) ?_
    rintro _ h_307 σ_308 m_309 ⟨rfl, K_310, um, ue, us⟩
    replace uE := uE.keep K_310
    replace s_304 := m_309 _ s_304
    refine Road.astore 73 #[.val (.int p0), .val (.int p1), .val (.int p2), .val (.int (2 : Int32)), .val (.int k0), .val (.int k1), .val (.int n0c), .val (.int a0c), .val (.int b0c), .val (.int n1c), .val (.int a1c), .val (.int b1c), .val (.ref o), .unset, .unset, .unset, .unset] b0_d73 rfl ?_
    refine Road.new 75 "java/util/ArrayList" b0_d75 (hw _ (List.mem_of_getElem? (i := 4) rfl)) (hw _ (List.mem_of_getElem? (i := 5) rfl)) (hw _ (List.mem_of_getElem? (i := 6) rfl)) (ce' := 2) (sl' := 6) rfl rfl (by decide) (by decide) ?_
    intro p h_312 σ_313 g_314 K_315 lt_316 m_317 s_318 vE D_319 M_320
    have ne_o_p : o ≠ p := Nat.ne_of_lt (Nat.lt_of_lt_of_le uE.lt (Nat.le_of_eq g_314.symm))
    replace uE := uE.keep K_315
    replace um := um.keep K_315 nin0
    replace ue := ue.keep K_315 nin0
    replace us := us.keep K_315 nin0
    replace s_304 := m_317 _ s_304
    have vm := D_319 (Or.inl (hw _ (List.mem_of_getElem? (i := 26) rfl))) (ty := .int) (by decide)
    have ve := D_319 (Or.inl (hw _ (List.mem_of_getElem? (i := 29) rfl))) (ty := (.array (.object "java/lang/Object"))) (by decide)
    have vs := D_319 (Or.inl (hw _ (List.mem_of_getElem? (i := 64) rfl))) (ty := .int) (by decide)
    refine Road.dup 78 b0_d78 ?_
    refine Road.callI (B' := bAlI) (a := p) 79 (argsL := []) (rest := [(.ref p)]) 1 b0_d79 (hw _ (List.mem_of_getElem? (i := 7) rfl)) (hw _ (List.mem_of_getElem? (i := 8) rfl)) (hw _ (List.mem_of_getElem? (i := 6) rfl)) (hw _ (List.mem_of_getElem? (i := 9) rfl)) rfl rfl (by decide) (cAlI l Z a0 hw n0 hEW p h_312 σ_313 vE vm ve vs s_318 da HDa ADa) (lenOf bAlI_pd rfl) rfl rfl rfl (by decide) (by decide) (ce' := 2) (sl' := 6) rfl rfl (by decide) (by decide) ?_
    rintro _ h_321 σ_322 m_323 ⟨rfl, K_324, vm, ve, vs⟩
    replace uE := uE.keep K_324
    replace um := um.keep K_324 (ninS ne_o_p nin0)
    replace ue := ue.keep K_324 (ninS ne_o_p nin0)
    replace us := us.keep K_324 (ninS ne_o_p nin0)
    replace vE := vE.keep K_324
    replace s_304 := m_323 _ s_304
    replace s_318 := m_323 _ s_318
    refine Road.astore 82 #[.val (.int p0), .val (.int p1), .val (.int p2), .val (.int (2 : Int32)), .val (.int k0), .val (.int k1), .val (.int n0c), .val (.int a0c), .val (.int b0c), .val (.int n1c), .val (.int a1c), .val (.int b1c), .val (.ref o), .val (.ref p), .unset, .unset, .unset] b0_d82 rfl ?_
    refine Road.iloadN 84 b0_d84 rfl ?_
    refine Road.iconst 85 (1 : Int32) b0_d85 rfl ?_
    refine Road.icmp_lt 86 115 b0_d86 rfl (fun q => absurd q (by decide)) (fun hc86 => ?_)
    refine Road.aload 89 b0_d89 rfl ?_
    refine Road.iload 91 b0_d91 rfl ?_
    refine Road.callS (B' := bVal) 93 (argsL := [(.int n0c)]) (rest := [(.ref o)]) 1 b0_d93 (hw _ (List.mem_of_getElem? (i := 138) rfl)) (hw _ (List.mem_of_getElem? (i := 139) rfl)) (hw _ (List.mem_of_getElem? (i := 48) rfl)) (hw _ (List.mem_of_getElem? (i := 140) rfl)) (by decide) (cVal l Z a0 hw n0 hEW n0c h_321 σ_322 ln0c cp Hc hcp) (lenOf bVal_pd rfl) rfl rfl rfl (by decide) (by decide) (ce' := 4) (sl' := 11) rfl rfl (by decide) (by decide) ?_
    rintro _ h_327 σ_328 m_329 ⟨u0, d0, rfl, gu0, gd0, K_330, T0⟩
    have ne_o_u0 : o ≠ u0 := Nat.ne_of_lt (Nat.lt_of_lt_of_le uE.lt gu0)
    have ne_p_u0 : p ≠ u0 := Nat.ne_of_lt (Nat.lt_of_lt_of_le vE.lt gu0)
    have ne_o_d0 : o ≠ d0 := Nat.ne_of_lt (Nat.lt_of_lt_of_le uE.lt gd0)
    have ne_p_d0 : p ≠ d0 := Nat.ne_of_lt (Nat.lt_of_lt_of_le vE.lt gd0)
    replace uE := uE.keep K_330
    replace um := um.keep K_330 nin0
    replace ue := ue.keep K_330 nin0
    replace us := us.keep K_330 nin0
    replace vE := vE.keep K_330
    replace vm := vm.keep K_330 nin0
    replace ve := ve.keep K_330 nin0
    replace vs := vs.keep K_330 nin0
    replace s_304 := m_329 _ s_304
    replace s_318 := m_329 _ s_318
    refine Road.callV (B' := bAdd1) (a := o) 96 (argsL := [(.ref u0)]) (rest := []) "java/util/ArrayList" 0 b0_d96 (hw _ (List.mem_of_getElem? (i := 152) rfl)) (hw _ (List.mem_of_getElem? (i := 153) rfl)) (fun vm hz => Road.notFace_sib (args := #[]) (mv (s := D.s.setVm vm) hz (hw _ (List.mem_of_getElem? (i := 155) rfl))) rfl) (hw _ (List.mem_of_getElem? (i := 155) rfl)) (hw _ (List.mem_of_getElem? (i := 154) rfl)) (hw _ (List.mem_of_getElem? (i := 6) rfl)) (hw _ (List.mem_of_getElem? (i := 156) rfl)) (by decide) uE (cAdd1 l Z a0 hw n0 hEW o u0 0 da h_327 σ_328 uE um ue us T0.1 s_304 HDa ADa) (lenOf bAdd1_pd rfl) rfl rfl rfl (by decide) (by decide) (ce' := 5) (sl' := 21) rfl rfl (by decide) (by decide) ?_
    rintro _ h_333 σ_334 m_335 ⟨rfl, K_336, ua, gua, sua, um, ue, us, uA, uO⟩
    have ne_o_ua : o ≠ ua := Nat.ne_of_lt (Nat.lt_of_lt_of_le uE.lt gua)
    have ne_p_ua : p ≠ ua := Nat.ne_of_lt (Nat.lt_of_lt_of_le vE.lt gua)
    have ne_u0_ua : u0 ≠ ua := Nat.ne_of_lt (Nat.lt_of_lt_of_le T0.lt gua)
    have ne_d0_ua : d0 ≠ ua := Nat.ne_of_lt (Nat.lt_of_lt_of_le T0.ltb gua)
    replace uE := uE.keep K_336
    replace vE := vE.keep K_336
    replace vm := vm.keep K_336 (ninS (Ne.symm ne_o_p) nin0)
    replace ve := ve.keep K_336 (ninS (Ne.symm ne_o_p) nin0)
    replace vs := vs.keep K_336 (ninS (Ne.symm ne_o_p) nin0)
    replace T0 := T0.keep K_336 (ninS (Ne.symm ne_o_u0) nin0) (ninS (Ne.symm ne_o_d0) nin0)
    replace s_304 := m_335 _ s_304
    replace s_318 := m_335 _ s_318
    refine Road.pop 99 b0_d99 ?_
    refine Road.aload 100 b0_d100 rfl ?_
    refine Road.iload 102 b0_d102 rfl ?_
    refine Road.iload 104 b0_d104 rfl ?_
    refine Road.iload 106 b0_d106 rfl ?_
    refine Road.callS (B' := bVlu) 108 (argsL := [(.int k0), (.int a0c), (.int b0c)]) (rest := [(.ref p)]) 1 b0_d108 (hw _ (List.mem_of_getElem? (i := 180) rfl)) (hw _ (List.mem_of_getElem? (i := 181) rfl)) (hw _ (List.mem_of_getElem? (i := 2) rfl)) (hw _ (List.mem_of_getElem? (i := 182) rfl)) (by decide) (cVlu l Z a0 hw n0 hEW k0 a0c b0c h_333 σ_334 la0c lb0c hk03 cp Hc hcp) (lenOf bVlu_pd rfl) rfl rfl rfl (by decide) (by decide) (ce' := 8) (sl' := 29) rfl rfl (by decide) (by decide) ?_
    have ps_343 := s_304
    have ps_344 := s_318
    have ps_345 := sua
    rintro _ h_339 σ_340 m_341 ⟨v0, w0, hs0, rfl, K_342, U0, R0, N0⟩
    replace uE := uE.keep K_342
    replace vE := vE.keep K_342
    replace vm := vm.keep K_342 nin0
    replace ve := ve.keep K_342 nin0
    replace vs := vs.keep K_342 nin0
    replace T0 := T0.keep K_342 nin0 nin0
    replace um := um.keep K_342 nin0
    replace ue := ue.keep K_342 nin0
    replace us := us.keep K_342 nin0
    replace uA := uA.keep K_342 nin0
    replace uO := uO.keep K_342
    replace s_304 := m_341 _ s_304
    replace s_318 := m_341 _ s_318
    replace sua := m_341 _ sua
    have ne_o_v0 : o ≠ v0 := (N0 o ps_343).1
    have ne_o_w0 : o ≠ w0 := (N0 o ps_343).2
    have ne_p_v0 : p ≠ v0 := (N0 p ps_344).1
    have ne_p_w0 : p ≠ w0 := (N0 p ps_344).2
    have ne_ua_v0 : ua ≠ v0 := (N0 ua ps_345).1
    have ne_ua_w0 : ua ≠ w0 := (N0 ua ps_345).2
    refine Road.callV (B' := bAdd1) (a := p) 111 (argsL := [(.ref v0)]) (rest := []) "java/util/ArrayList" 0 b0_d111 (hw _ (List.mem_of_getElem? (i := 152) rfl)) (hw _ (List.mem_of_getElem? (i := 153) rfl)) (fun vm hz => Road.notFace_sib (args := #[]) (mv (s := D.s.setVm vm) hz (hw _ (List.mem_of_getElem? (i := 155) rfl))) rfl) (hw _ (List.mem_of_getElem? (i := 155) rfl)) (hw _ (List.mem_of_getElem? (i := 154) rfl)) (hw _ (List.mem_of_getElem? (i := 6) rfl)) (hw _ (List.mem_of_getElem? (i := 156) rfl)) (by decide) vE (cAdd1 l Z a0 hw n0 hEW p v0 0 da h_339 σ_340 vE vm ve vs U0.1 s_318 HDa ADa) (lenOf bAdd1_pd rfl) rfl rfl rfl (by decide) (by decide) (ce' := 9) (sl' := 39) rfl rfl (by decide) (by decide) ?_
    rintro _ h_346 σ_347 m_348 ⟨rfl, K_349, va, gva, sva, vm, ve, vs, vA, vO⟩
    have ne_o_va : o ≠ va := Nat.ne_of_lt (Nat.lt_of_lt_of_le uE.lt gva)
    have ne_p_va : p ≠ va := Nat.ne_of_lt (Nat.lt_of_lt_of_le vE.lt gva)
    have ne_u0_va : u0 ≠ va := Nat.ne_of_lt (Nat.lt_of_lt_of_le T0.lt gva)
    have ne_d0_va : d0 ≠ va := Nat.ne_of_lt (Nat.lt_of_lt_of_le T0.ltb gva)
    have ne_ua_va : ua ≠ va := Nat.ne_of_lt (Nat.lt_of_lt_of_le uA.lt gva)
    have ne_v0_va : v0 ≠ va := Nat.ne_of_lt (Nat.lt_of_lt_of_le U0.lt gva)
    have ne_w0_va : w0 ≠ va := Nat.ne_of_lt (Nat.lt_of_lt_of_le U0.ltb gva)
    replace uE := uE.keep K_349
    replace vE := vE.keep K_349
    replace T0 := T0.keep K_349 (ninS (Ne.symm ne_p_u0) nin0) (ninS (Ne.symm ne_p_d0) nin0)
    replace um := um.keep K_349 (ninS ne_o_p nin0)
    replace ue := ue.keep K_349 (ninS ne_o_p nin0)
    replace us := us.keep K_349 (ninS ne_o_p nin0)
    replace uA := uA.keep K_349 (ninS (Ne.symm ne_p_ua) nin0)
    replace uO := uO.keep K_349
    replace U0 := U0.keep K_349 (ninS (Ne.symm ne_p_v0) nin0) (ninS (Ne.symm ne_p_w0) nin0)
    replace s_304 := m_348 _ s_304
    replace s_318 := m_348 _ s_318
    replace sua := m_348 _ sua
    refine Road.pop 114 b0_d114 ?_
    refine Road.iloadN 115 b0_d115 rfl ?_
    refine Road.iconst 116 (2 : Int32) b0_d116 rfl ?_
    refine Road.icmp_lt 117 146 b0_d117 rfl (fun q => absurd q (by decide)) (fun hc117 => ?_)
    refine Road.aload 120 b0_d120 rfl ?_
    refine Road.iload 122 b0_d122 rfl ?_
    refine Road.callS (B' := bVal) 124 (argsL := [(.int n1c)]) (rest := [(.ref o)]) 1 b0_d124 (hw _ (List.mem_of_getElem? (i := 138) rfl)) (hw _ (List.mem_of_getElem? (i := 139) rfl)) (hw _ (List.mem_of_getElem? (i := 48) rfl)) (hw _ (List.mem_of_getElem? (i := 140) rfl)) (by decide) (cVal l Z a0 hw n0 hEW n1c h_346 σ_347 ln1c cp Hc hcp) (lenOf bVal_pd rfl) rfl rfl rfl (by decide) (by decide) (ce' := 11) (sl' := 44) rfl rfl (by decide) (by decide) ?_
    rintro _ h_353 σ_354 m_355 ⟨u1, d1, rfl, gu1, gd1, K_356, T1⟩
    have ne_o_u1 : o ≠ u1 := Nat.ne_of_lt (Nat.lt_of_lt_of_le uE.lt gu1)
    have ne_p_u1 : p ≠ u1 := Nat.ne_of_lt (Nat.lt_of_lt_of_le vE.lt gu1)
    have ne_u0_u1 : u0 ≠ u1 := Nat.ne_of_lt (Nat.lt_of_lt_of_le T0.lt gu1)
    have ne_d0_u1 : d0 ≠ u1 := Nat.ne_of_lt (Nat.lt_of_lt_of_le T0.ltb gu1)
    have ne_ua_u1 : ua ≠ u1 := Nat.ne_of_lt (Nat.lt_of_lt_of_le uA.lt gu1)
    have ne_v0_u1 : v0 ≠ u1 := Nat.ne_of_lt (Nat.lt_of_lt_of_le U0.lt gu1)
    have ne_w0_u1 : w0 ≠ u1 := Nat.ne_of_lt (Nat.lt_of_lt_of_le U0.ltb gu1)
    have ne_va_u1 : va ≠ u1 := Nat.ne_of_lt (Nat.lt_of_lt_of_le vA.lt gu1)
    have ne_o_d1 : o ≠ d1 := Nat.ne_of_lt (Nat.lt_of_lt_of_le uE.lt gd1)
    have ne_p_d1 : p ≠ d1 := Nat.ne_of_lt (Nat.lt_of_lt_of_le vE.lt gd1)
    have ne_u0_d1 : u0 ≠ d1 := Nat.ne_of_lt (Nat.lt_of_lt_of_le T0.lt gd1)
    have ne_d0_d1 : d0 ≠ d1 := Nat.ne_of_lt (Nat.lt_of_lt_of_le T0.ltb gd1)
    have ne_ua_d1 : ua ≠ d1 := Nat.ne_of_lt (Nat.lt_of_lt_of_le uA.lt gd1)
    have ne_v0_d1 : v0 ≠ d1 := Nat.ne_of_lt (Nat.lt_of_lt_of_le U0.lt gd1)
    have ne_w0_d1 : w0 ≠ d1 := Nat.ne_of_lt (Nat.lt_of_lt_of_le U0.ltb gd1)
    have ne_va_d1 : va ≠ d1 := Nat.ne_of_lt (Nat.lt_of_lt_of_le vA.lt gd1)
    replace uE := uE.keep K_356
    replace vE := vE.keep K_356
    replace T0 := T0.keep K_356 nin0 nin0
    replace um := um.keep K_356 nin0
    replace ue := ue.keep K_356 nin0
    replace us := us.keep K_356 nin0
    replace uA := uA.keep K_356 nin0
    replace uO := uO.keep K_356
    replace U0 := U0.keep K_356 nin0 nin0
    replace vm := vm.keep K_356 nin0
    replace ve := ve.keep K_356 nin0
    replace vs := vs.keep K_356 nin0
    replace vA := vA.keep K_356 nin0
    replace vO := vO.keep K_356
    replace s_304 := m_355 _ s_304
    replace s_318 := m_355 _ s_318
    replace sua := m_355 _ sua
    replace sva := m_355 _ sva
    refine Road.callV (B' := bAdd2) (a := o) 127 (argsL := [(.ref u1)]) (rest := []) "java/util/ArrayList" 0 b0_d127 (hw _ (List.mem_of_getElem? (i := 152) rfl)) (hw _ (List.mem_of_getElem? (i := 153) rfl)) (fun vm hz => Road.notFace_sib (args := #[]) (mv (s := D.s.setVm vm) hz (hw _ (List.mem_of_getElem? (i := 155) rfl))) rfl) (hw _ (List.mem_of_getElem? (i := 155) rfl)) (hw _ (List.mem_of_getElem? (i := 154) rfl)) (hw _ (List.mem_of_getElem? (i := 6) rfl)) (hw _ (List.mem_of_getElem? (i := 156) rfl)) (by decide) uE (cAdd2 l Z a0 hw n0 hEW o ua u0 u1 (0 + 1) h_353 σ_354 uE um ue us T1.1 s_304 sua ne_o_ua uA uO) (lenOf bAdd2_pd rfl) rfl rfl rfl (by decide) (by decide) (ce' := 11) (sl' := 44) rfl rfl (by decide) (by decide) ?_
    rintro _ h_361 σ_362 m_363 ⟨rfl, K_364, um, ue, us, uA⟩
    replace uE := uE.keep K_364
    replace vE := vE.keep K_364
    replace T0 := T0.keep K_364 (ninS (Ne.symm ne_o_u0) (ninS ne_u0_ua nin0)) (ninS (Ne.symm ne_o_d0) (ninS ne_d0_ua nin0))
    replace uO := uO.keep K_364
    replace U0 := U0.keep K_364 (ninS (Ne.symm ne_o_v0) (ninS (Ne.symm ne_ua_v0) nin0)) (ninS (Ne.symm ne_o_w0) (ninS (Ne.symm ne_ua_w0) nin0))
    replace vm := vm.keep K_364 (ninS (Ne.symm ne_o_p) (ninS ne_p_ua nin0))
    replace ve := ve.keep K_364 (ninS (Ne.symm ne_o_p) (ninS ne_p_ua nin0))
    replace vs := vs.keep K_364 (ninS (Ne.symm ne_o_p) (ninS ne_p_ua nin0))
    replace vA := vA.keep K_364 (ninS (Ne.symm ne_o_va) (ninS (Ne.symm ne_ua_va) nin0))
    replace vO := vO.keep K_364
    replace T1 := T1.keep K_364 (ninS (Ne.symm ne_o_u1) (ninS (Ne.symm ne_ua_u1) nin0)) (ninS (Ne.symm ne_o_d1) (ninS (Ne.symm ne_ua_d1) nin0))
    replace s_304 := m_363 _ s_304
    replace s_318 := m_363 _ s_318
    replace sua := m_363 _ sua
    replace sva := m_363 _ sva
    refine Road.pop 130 b0_d130 ?_
    refine Road.aload 131 b0_d131 rfl ?_
    refine Road.iload 133 b0_d133 rfl ?_
    refine Road.iload 135 b0_d135 rfl ?_
    refine Road.iload 137 b0_d137 rfl ?_
    refine Road.callS (B' := bVlu) 139 (argsL := [(.int k1), (.int a1c), (.int b1c)]) (rest := [(.ref p)]) 1 b0_d139 (hw _ (List.mem_of_getElem? (i := 180) rfl)) (hw _ (List.mem_of_getElem? (i := 181) rfl)) (hw _ (List.mem_of_getElem? (i := 2) rfl)) (hw _ (List.mem_of_getElem? (i := 182) rfl)) (by decide) (cVlu l Z a0 hw n0 hEW k1 a1c b1c h_361 σ_362 la1c lb1c hk13 cp Hc hcp) (lenOf bVlu_pd rfl) rfl rfl rfl (by decide) (by decide) (ce' := 14) (sl' := 52) rfl rfl (by decide) (by decide) ?_
    have ps_373 := s_304
    have ps_374 := s_318
    have ps_375 := sua
    have ps_376 := sva
    rintro _ h_369 σ_370 m_371 ⟨v1, w1, hs1, rfl, K_372, U1, R1, N1⟩
    replace uE := uE.keep K_372
    replace vE := vE.keep K_372
    replace T0 := T0.keep K_372 nin0 nin0
    replace uO := uO.keep K_372
    replace U0 := U0.keep K_372 nin0 nin0
    replace vm := vm.keep K_372 nin0
    replace ve := ve.keep K_372 nin0
    replace vs := vs.keep K_372 nin0
    replace vA := vA.keep K_372 nin0
    replace vO := vO.keep K_372
    replace T1 := T1.keep K_372 nin0 nin0
    replace um := um.keep K_372 nin0
    replace ue := ue.keep K_372 nin0
    replace us := us.keep K_372 nin0
    replace uA := uA.keep K_372 nin0
    replace s_304 := m_371 _ s_304
    replace s_318 := m_371 _ s_318
    replace sua := m_371 _ sua
    replace sva := m_371 _ sva
    have ne_o_v1 : o ≠ v1 := (N1 o ps_373).1
    have ne_o_w1 : o ≠ w1 := (N1 o ps_373).2
    have ne_p_v1 : p ≠ v1 := (N1 p ps_374).1
    have ne_p_w1 : p ≠ w1 := (N1 p ps_374).2
    have ne_ua_v1 : ua ≠ v1 := (N1 ua ps_375).1
    have ne_ua_w1 : ua ≠ w1 := (N1 ua ps_375).2
    have ne_va_v1 : va ≠ v1 := (N1 va ps_376).1
    have ne_va_w1 : va ≠ w1 := (N1 va ps_376).2
    refine Road.callV (B' := bAdd2) (a := p) 142 (argsL := [(.ref v1)]) (rest := []) "java/util/ArrayList" 0 b0_d142 (hw _ (List.mem_of_getElem? (i := 152) rfl)) (hw _ (List.mem_of_getElem? (i := 153) rfl)) (fun vm hz => Road.notFace_sib (args := #[]) (mv (s := D.s.setVm vm) hz (hw _ (List.mem_of_getElem? (i := 155) rfl))) rfl) (hw _ (List.mem_of_getElem? (i := 155) rfl)) (hw _ (List.mem_of_getElem? (i := 154) rfl)) (hw _ (List.mem_of_getElem? (i := 6) rfl)) (hw _ (List.mem_of_getElem? (i := 156) rfl)) (by decide) vE (cAdd2 l Z a0 hw n0 hEW p va v0 v1 (0 + 1) h_369 σ_370 vE vm ve vs U1.1 s_318 sva ne_p_va vA vO) (lenOf bAdd2_pd rfl) rfl rfl rfl (by decide) (by decide) (ce' := 14) (sl' := 52) rfl rfl (by decide) (by decide) ?_
    rintro _ h_377 σ_378 m_379 ⟨rfl, K_380, vm, ve, vs, vA⟩
    replace uE := uE.keep K_380
    replace vE := vE.keep K_380
    replace T0 := T0.keep K_380 (ninS (Ne.symm ne_p_u0) (ninS ne_u0_va nin0)) (ninS (Ne.symm ne_p_d0) (ninS ne_d0_va nin0))
    replace uO := uO.keep K_380
    replace U0 := U0.keep K_380 (ninS (Ne.symm ne_p_v0) (ninS ne_v0_va nin0)) (ninS (Ne.symm ne_p_w0) (ninS ne_w0_va nin0))
    replace vO := vO.keep K_380
    replace T1 := T1.keep K_380 (ninS (Ne.symm ne_p_u1) (ninS (Ne.symm ne_va_u1) nin0)) (ninS (Ne.symm ne_p_d1) (ninS (Ne.symm ne_va_d1) nin0))
    replace um := um.keep K_380 (ninS ne_o_p (ninS ne_o_va nin0))
    replace ue := ue.keep K_380 (ninS ne_o_p (ninS ne_o_va nin0))
    replace us := us.keep K_380 (ninS ne_o_p (ninS ne_o_va nin0))
    replace uA := uA.keep K_380 (ninS (Ne.symm ne_p_ua) (ninS ne_ua_va nin0))
    replace U1 := U1.keep K_380 (ninS (Ne.symm ne_p_v1) (ninS (Ne.symm ne_va_v1) nin0)) (ninS (Ne.symm ne_p_w1) (ninS (Ne.symm ne_va_w1) nin0))
    replace s_304 := m_379 _ s_304
    replace s_318 := m_379 _ s_318
    replace sua := m_379 _ sua
    replace sva := m_379 _ sva
    refine Road.pop 145 b0_d145 ?_
    refine Road.aload 146 b0_d146 rfl ?_
    refine Road.aload 148 b0_d148 rfl ?_
    refine Road.callS (B' := bLab2) 150 (argsL := [(.ref o), (.ref p)]) (rest := []) 0 b0_d150 (hw _ (List.mem_of_getElem? (i := 30) rfl)) (hw _ (List.mem_of_getElem? (i := 31) rfl)) (hw _ (List.mem_of_getElem? (i := 32) rfl)) (hw _ (List.mem_of_getElem? (i := 33) rfl)) (by decide) (cLab2 l Z a0 hw n0 hEW o p ua va u0 d0 v0 w0 n0c hs0 u1 d1 v1 w1 n1c hs1 h_377 σ_378 uE us ue uA vE vs ve vA T0 U0 (rel_len R0) T1 U1 (rel_len R1) cp Hc hcp fm hfm Hf) (lenOf bLab2_pd rfl) rfl rfl rfl (by decide) (by decide) (ce' := 35) (sl' := 215) rfl rfl (by decide) (by decide) ?_
    rintro _ h_385 σ_386 m_387 ⟨r, rd, rfl, K_388, T⟩
    replace uE := uE.keep K_388
    replace vE := vE.keep K_388
    replace T0 := T0.keep K_388 nin0 nin0
    replace uO := uO.keep K_388
    replace U0 := U0.keep K_388 nin0 nin0
    replace vO := vO.keep K_388
    replace T1 := T1.keep K_388 nin0 nin0
    replace um := um.keep K_388 nin0
    replace ue := ue.keep K_388 nin0
    replace us := us.keep K_388 nin0
    replace uA := uA.keep K_388 nin0
    replace U1 := U1.keep K_388 nin0 nin0
    replace vm := vm.keep K_388 nin0
    replace ve := ve.keep K_388 nin0
    replace vs := vs.keep K_388 nin0
    replace vA := vA.keep K_388 nin0
    replace s_304 := m_387 _ s_304
    replace s_318 := m_387 _ s_318
    replace sua := m_387 _ sua
    replace sva := m_387 _ sva
    refine Road.astore 153 #[.val (.int p0), .val (.int p1), .val (.int p2), .val (.int (2 : Int32)), .val (.int k0), .val (.int k1), .val (.int n0c), .val (.int a0c), .val (.int b0c), .val (.int n1c), .val (.int a1c), .val (.int b1c), .val (.ref o), .val (.ref p), .val (.ref r), .unset, .unset] b0_d153 rfl ?_
    refine Road.bipush 155 (18 : Int32) b0_d155 rfl ?_
    refine Road.newarray 157 .char 18 18 b0_d157 rfl (hw _ (List.mem_of_getElem? (i := 123) rfl)) (by decide) (by decide) (by decide) (ce' := 36) (sl' := 233) rfl rfl (by decide) (by decide) ?_
    intro t h_393 σ_394 g_395 K_396 lt_397 m_398 s_399 At
    have ne_r_t : r ≠ t := Nat.ne_of_lt (Nat.lt_of_lt_of_le T.lt (Nat.le_of_eq g_395.symm))
    have ne_rd_t : rd ≠ t := Nat.ne_of_lt (Nat.lt_of_lt_of_le T.ltb (Nat.le_of_eq g_395.symm))
    replace T := T.keep K_396 nin0 nin0
    replace s_304 := m_398 _ s_304
    replace s_318 := m_398 _ s_318
    replace sua := m_398 _ sua
    replace sva := m_398 _ sva
    have F : Buf Z h_393 t [] := ⟨_, At, rfl⟩
    refine Road.astore 159 #[.val (.int p0), .val (.int p1), .val (.int p2), .val (.int (2 : Int32)), .val (.int k0), .val (.int k1), .val (.int n0c), .val (.int a0c), .val (.int b0c), .val (.int n1c), .val (.int a1c), .val (.int b1c), .val (.ref o), .val (.ref p), .val (.ref r), .val (.ref t), .unset] b0_d159 rfl ?_
    refine Road.iconst 161 (0 : Int32) b0_d161 rfl ?_
    refine Road.istore 162 #[.val (.int p0), .val (.int p1), .val (.int p2), .val (.int (2 : Int32)), .val (.int k0), .val (.int k1), .val (.int n0c), .val (.int a0c), .val (.int b0c), .val (.int n1c), .val (.int a1c), .val (.int b1c), .val (.ref o), .val (.ref p), .val (.ref r), .val (.ref t), .val (.int (0 : Int32))] b0_d162 rfl ?_
    refine Road.iloadN 164 b0_d164 rfl ?_
    refine Road.iconst 165 (1 : Int32) b0_d165 rfl ?_
    refine Road.icmp_lt 166 187 b0_d166 rfl (fun q => absurd q (by decide)) (fun hc166 => ?_)
    refine Road.aload 169 b0_d169 rfl ?_
    refine Road.iload 171 b0_d171 rfl ?_
    refine Road.iconst 173 (1 : Int32) b0_d173 rfl ?_
    refine Road.iload 174 b0_d174 rfl ?_
    refine Road.iload 176 b0_d176 rfl ?_
    refine Road.iload 178 b0_d178 rfl ?_
    refine Road.iload 180 b0_d180 rfl ?_
    refine Road.callS (B' := bLbl) 182 (argsL := [(.ref t), (.int (Nat.toInt32 ([] : List Int32).length)), (.int (1 : Int32)), (.int n0c), (.int k0), (.int a0c), (.int b0c)]) (rest := []) 0 b0_d182 (hw _ (List.mem_of_getElem? (i := 257) rfl)) (hw _ (List.mem_of_getElem? (i := 258) rfl)) (hw _ (List.mem_of_getElem? (i := 2) rfl)) (hw _ (List.mem_of_getElem? (i := 259) rfl)) (by decide) (cLbl1 l Z a0 hw n0 hEW t ([] : List Int32) n0c k0 a0c b0c hs0 h_393 σ_394 F (by simp) ln0c la0c lb0c R0 s_399) (lenOf bLbl_pd rfl) rfl rfl rfl (by decide) (by decide) (ce' := 36) (sl' := 233) rfl rfl (by decide) (by decide) ?_
    rintro _ h_400 σ_401 m_402 ⟨rfl, K_403, F⟩
    replace T := T.keep K_403 (ninS ne_r_t nin0) (ninS ne_rd_t nin0)
    replace s_304 := m_402 _ s_304
    replace s_318 := m_402 _ s_318
    replace sua := m_402 _ sua
    replace sva := m_402 _ sva
    replace s_399 := m_402 _ s_399
    refine Road.istore 185 #[.val (.int p0), .val (.int p1), .val (.int p2), .val (.int (2 : Int32)), .val (.int k0), .val (.int k1), .val (.int n0c), .val (.int a0c), .val (.int b0c), .val (.int n1c), .val (.int a1c), .val (.int b1c), .val (.ref o), .val (.ref p), .val (.ref r), .val (.ref t), .val (.int (Nat.toInt32 (([] : List Int32) ++ labL true n0c hs0).length))] b0_d185 rfl ?_
    refine Road.iloadN 187 b0_d187 rfl ?_
    refine Road.iconst 188 (2 : Int32) b0_d188 rfl ?_
    refine Road.icmp_lt 189 210 b0_d189 rfl (fun q => absurd q (by decide)) (fun hc189 => ?_)
    refine Road.aload 192 b0_d192 rfl ?_
    refine Road.iload 194 b0_d194 rfl ?_
    refine Road.iconst 196 (0 : Int32) b0_d196 rfl ?_
    refine Road.iload 197 b0_d197 rfl ?_
    refine Road.iload 199 b0_d199 rfl ?_
    refine Road.iload 201 b0_d201 rfl ?_
    refine Road.iload 203 b0_d203 rfl ?_
    have hL0 := labL_len true n0c hs0 (rel_len R0)
    simp only [if_true] at hL0
    refine Road.callS (B' := bLbl) 205 (argsL := [(.ref t), (.int (Nat.toInt32 (([] : List Int32) ++ labL true n0c hs0).length)), (.int (0 : Int32)), (.int n1c), (.int k1), (.int a1c), (.int b1c)]) (rest := []) 0 b0_d205 (hw _ (List.mem_of_getElem? (i := 257) rfl)) (hw _ (List.mem_of_getElem? (i := 258) rfl)) (hw _ (List.mem_of_getElem? (i := 2) rfl)) (hw _ (List.mem_of_getElem? (i := 259) rfl)) (by decide) (cLbl0 l Z a0 hw n0 hEW t (([] : List Int32) ++ labL true n0c hs0) n1c k1 a1c b1c hs1 h_400 σ_401 F (by simp only [List.length_append, List.length_nil]; omega) ln1c la1c lb1c R1 s_399) (lenOf bLbl_pd rfl) rfl rfl rfl (by decide) (by decide) (ce' := 36) (sl' := 233) rfl rfl (by decide) (by decide) ?_
    rintro _ h_409 σ_410 m_411 ⟨rfl, K_412, F⟩
    replace T := T.keep K_412 (ninS ne_r_t nin0) (ninS ne_rd_t nin0)
    replace s_304 := m_411 _ s_304
    replace s_318 := m_411 _ s_318
    replace sua := m_411 _ sua
    replace sva := m_411 _ sva
    replace s_399 := m_411 _ s_399
    refine Road.istore 208 #[.val (.int p0), .val (.int p1), .val (.int p2), .val (.int (2 : Int32)), .val (.int k0), .val (.int k1), .val (.int n0c), .val (.int a0c), .val (.int b0c), .val (.int n1c), .val (.int a1c), .val (.int b1c), .val (.ref o), .val (.ref p), .val (.ref r), .val (.ref t), .val (.int (Nat.toInt32 ((([] : List Int32) ++ labL true n0c hs0) ++ labL false n1c hs1).length))] b0_d208 rfl ?_
    refine Road.aload 210 b0_d210 rfl ?_
    obtain ⟨L, hL⟩ : ∃ L : List Int32, L = (labL true n0c hs0 ++ labL false n1c hs1) := ⟨_, rfl⟩
    rw [show ((([] : List Int32) ++ labL true n0c hs0) ++ labL false n1c hs1) = L from by rw [hL]; simp] at F
    rw [← hL] at T
    rw [show ((([] : List Int32) ++ labL true n0c hs0) ++ labL false n1c hs1) = L from by rw [hL]; simp]
    refine Road.callV (B' := bLen) (a := r) 212 (argsL := []) (rest := []) "java/lang/String" 0 b0_d212 (hw _ (List.mem_of_getElem? (i := 124) rfl)) (hw _ (List.mem_of_getElem? (i := 125) rfl)) (fun vm hz => Road.notFace_sib (args := #[]) (mv (s := D.s.setVm vm) hz (hw _ (List.mem_of_getElem? (i := 127) rfl))) rfl) (hw _ (List.mem_of_getElem? (i := 127) rfl)) (hw _ (List.mem_of_getElem? (i := 126) rfl)) (hw _ (List.mem_of_getElem? (i := 48) rfl)) (hw _ (List.mem_of_getElem? (i := 128) rfl)) (by decide) T.1 (cLen l Z a0 hw n0 hEW r rd _ h_409 σ_410 T cp Hc hcp) (lenOf bLen_pd rfl) rfl rfl rfl (by decide) (by decide) (ce' := 36) (sl' := 233) rfl rfl (by decide) (by decide) ?_
    rintro _ h_418 σ_419 m_420 ⟨rfl, rfl⟩
    refine Road.Go.weaken (σ' := σ_410) m_420 (Nat.le_refl _) (Nat.le_refl _) ?_
    refine Road.iload 215 b0_d215 rfl ?_
    refine Road.icmp_eq 217 222 b0_d217 rfl (fun hc217 => ?_) (fun q => absurd q (fun nq => nq rfl))
    refine Road.aload 222 b0_d222 rfl ?_
    refine Road.aload 224 b0_d224 rfl ?_
    refine Road.iconst 226 (0 : Int32) b0_d226 rfl ?_
    refine Road.iload 227 b0_d227 rfl ?_
    refine Road.callS (B' := bAt) 229 (argsL := [(.ref r), (.ref t), (.int (Nat.toInt32 0)), (.int (Nat.toInt32 L.length))]) (rest := []) 0 b0_d229 (hw _ (List.mem_of_getElem? (i := 135) rfl)) (hw _ (List.mem_of_getElem? (i := 136) rfl)) (hw _ (List.mem_of_getElem? (i := 2) rfl)) (hw _ (List.mem_of_getElem? (i := 137) rfl)) (by decide) (cAt l Z a0 hw n0 hEW r rd t L 0 h_409 σ_410 T F (by decide) cp Hc hcp fm hfm Hf) (lenOf bAt_pd rfl) rfl rfl rfl (by decide) (by decide) (ce' := 36) (sl' := 233) rfl rfl (by decide) (by decide) ?_
    rintro _ h_422 σ_423 m_424 ⟨rfl, rfl⟩
    refine Road.Go.weaken (σ' := σ_410) m_424 (Nat.le_refl _) (Nat.le_refl _) ?_
    refine Road.if_eq 232 472 b0_d232 rfl (fun q => absurd q (by decide)) (fun hc232 => ?_)
    refine Road.aload 235 b0_d235 rfl ?_
    refine Road.aload 237 b0_d237 rfl ?_
    refine Road.iconst 239 (1 : Int32) b0_d239 rfl ?_
    refine Road.iload 240 b0_d240 rfl ?_
    refine Road.callS (B' := bAt) 242 (argsL := [(.ref r), (.ref t), (.int (Nat.toInt32 1)), (.int (Nat.toInt32 L.length))]) (rest := []) 0 b0_d242 (hw _ (List.mem_of_getElem? (i := 135) rfl)) (hw _ (List.mem_of_getElem? (i := 136) rfl)) (hw _ (List.mem_of_getElem? (i := 2) rfl)) (hw _ (List.mem_of_getElem? (i := 137) rfl)) (by decide) (cAt l Z a0 hw n0 hEW r rd t L 1 h_409 σ_410 T F (by decide) cp Hc hcp fm hfm Hf) (lenOf bAt_pd rfl) rfl rfl rfl (by decide) (by decide) (ce' := 36) (sl' := 233) rfl rfl (by decide) (by decide) ?_
    rintro _ h_426 σ_427 m_428 ⟨rfl, rfl⟩
    refine Road.Go.weaken (σ' := σ_410) m_428 (Nat.le_refl _) (Nat.le_refl _) ?_
    refine Road.if_eq 245 472 b0_d245 rfl (fun q => absurd q (by decide)) (fun hc245 => ?_)
    refine Road.aload 248 b0_d248 rfl ?_
    refine Road.aload 250 b0_d250 rfl ?_
    refine Road.iconst 252 (2 : Int32) b0_d252 rfl ?_
    refine Road.iload 253 b0_d253 rfl ?_
    refine Road.callS (B' := bAt) 255 (argsL := [(.ref r), (.ref t), (.int (Nat.toInt32 2)), (.int (Nat.toInt32 L.length))]) (rest := []) 0 b0_d255 (hw _ (List.mem_of_getElem? (i := 135) rfl)) (hw _ (List.mem_of_getElem? (i := 136) rfl)) (hw _ (List.mem_of_getElem? (i := 2) rfl)) (hw _ (List.mem_of_getElem? (i := 137) rfl)) (by decide) (cAt l Z a0 hw n0 hEW r rd t L 2 h_409 σ_410 T F (by decide) cp Hc hcp fm hfm Hf) (lenOf bAt_pd rfl) rfl rfl rfl (by decide) (by decide) (ce' := 36) (sl' := 233) rfl rfl (by decide) (by decide) ?_
    rintro _ h_430 σ_431 m_432 ⟨rfl, rfl⟩
    refine Road.Go.weaken (σ' := σ_410) m_432 (Nat.le_refl _) (Nat.le_refl _) ?_
    refine Road.if_eq 258 472 b0_d258 rfl (fun q => absurd q (by decide)) (fun hc258 => ?_)
    refine Road.aload 261 b0_d261 rfl ?_
    refine Road.aload 263 b0_d263 rfl ?_
    refine Road.iconst 265 (3 : Int32) b0_d265 rfl ?_
    refine Road.iload 266 b0_d266 rfl ?_
    refine Road.callS (B' := bAt) 268 (argsL := [(.ref r), (.ref t), (.int (Nat.toInt32 3)), (.int (Nat.toInt32 L.length))]) (rest := []) 0 b0_d268 (hw _ (List.mem_of_getElem? (i := 135) rfl)) (hw _ (List.mem_of_getElem? (i := 136) rfl)) (hw _ (List.mem_of_getElem? (i := 2) rfl)) (hw _ (List.mem_of_getElem? (i := 137) rfl)) (by decide) (cAt l Z a0 hw n0 hEW r rd t L 3 h_409 σ_410 T F (by decide) cp Hc hcp fm hfm Hf) (lenOf bAt_pd rfl) rfl rfl rfl (by decide) (by decide) (ce' := 36) (sl' := 233) rfl rfl (by decide) (by decide) ?_
    rintro _ h_434 σ_435 m_436 ⟨rfl, rfl⟩
    refine Road.Go.weaken (σ' := σ_410) m_436 (Nat.le_refl _) (Nat.le_refl _) ?_
    refine Road.if_eq 271 472 b0_d271 rfl (fun q => absurd q (by decide)) (fun hc271 => ?_)
    refine Road.aload 274 b0_d274 rfl ?_
    refine Road.aload 276 b0_d276 rfl ?_
    refine Road.iconst 278 (4 : Int32) b0_d278 rfl ?_
    refine Road.iload 279 b0_d279 rfl ?_
    refine Road.callS (B' := bAt) 281 (argsL := [(.ref r), (.ref t), (.int (Nat.toInt32 4)), (.int (Nat.toInt32 L.length))]) (rest := []) 0 b0_d281 (hw _ (List.mem_of_getElem? (i := 135) rfl)) (hw _ (List.mem_of_getElem? (i := 136) rfl)) (hw _ (List.mem_of_getElem? (i := 2) rfl)) (hw _ (List.mem_of_getElem? (i := 137) rfl)) (by decide) (cAt l Z a0 hw n0 hEW r rd t L 4 h_409 σ_410 T F (by decide) cp Hc hcp fm hfm Hf) (lenOf bAt_pd rfl) rfl rfl rfl (by decide) (by decide) (ce' := 36) (sl' := 233) rfl rfl (by decide) (by decide) ?_
    rintro _ h_438 σ_439 m_440 ⟨rfl, rfl⟩
    refine Road.Go.weaken (σ' := σ_410) m_440 (Nat.le_refl _) (Nat.le_refl _) ?_
    refine Road.if_eq 284 472 b0_d284 rfl (fun q => absurd q (by decide)) (fun hc284 => ?_)
    refine Road.aload 287 b0_d287 rfl ?_
    refine Road.aload 289 b0_d289 rfl ?_
    refine Road.iconst 291 (5 : Int32) b0_d291 rfl ?_
    refine Road.iload 292 b0_d292 rfl ?_
    refine Road.callS (B' := bAt) 294 (argsL := [(.ref r), (.ref t), (.int (Nat.toInt32 5)), (.int (Nat.toInt32 L.length))]) (rest := []) 0 b0_d294 (hw _ (List.mem_of_getElem? (i := 135) rfl)) (hw _ (List.mem_of_getElem? (i := 136) rfl)) (hw _ (List.mem_of_getElem? (i := 2) rfl)) (hw _ (List.mem_of_getElem? (i := 137) rfl)) (by decide) (cAt l Z a0 hw n0 hEW r rd t L 5 h_409 σ_410 T F (by decide) cp Hc hcp fm hfm Hf) (lenOf bAt_pd rfl) rfl rfl rfl (by decide) (by decide) (ce' := 36) (sl' := 233) rfl rfl (by decide) (by decide) ?_
    rintro _ h_442 σ_443 m_444 ⟨rfl, rfl⟩
    refine Road.Go.weaken (σ' := σ_410) m_444 (Nat.le_refl _) (Nat.le_refl _) ?_
    refine Road.if_eq 297 472 b0_d297 rfl (fun q => absurd q (by decide)) (fun hc297 => ?_)
    refine Road.aload 300 b0_d300 rfl ?_
    refine Road.aload 302 b0_d302 rfl ?_
    refine Road.bipush 304 (6 : Int32) b0_d304 rfl ?_
    refine Road.iload 306 b0_d306 rfl ?_
    refine Road.callS (B' := bAt) 308 (argsL := [(.ref r), (.ref t), (.int (Nat.toInt32 6)), (.int (Nat.toInt32 L.length))]) (rest := []) 0 b0_d308 (hw _ (List.mem_of_getElem? (i := 135) rfl)) (hw _ (List.mem_of_getElem? (i := 136) rfl)) (hw _ (List.mem_of_getElem? (i := 2) rfl)) (hw _ (List.mem_of_getElem? (i := 137) rfl)) (by decide) (cAt l Z a0 hw n0 hEW r rd t L 6 h_409 σ_410 T F (by decide) cp Hc hcp fm hfm Hf) (lenOf bAt_pd rfl) rfl rfl rfl (by decide) (by decide) (ce' := 36) (sl' := 233) rfl rfl (by decide) (by decide) ?_
    rintro _ h_446 σ_447 m_448 ⟨rfl, rfl⟩
    refine Road.Go.weaken (σ' := σ_410) m_448 (Nat.le_refl _) (Nat.le_refl _) ?_
    refine Road.if_eq 311 472 b0_d311 rfl (fun q => absurd q (by decide)) (fun hc311 => ?_)
    refine Road.aload 314 b0_d314 rfl ?_
    refine Road.aload 316 b0_d316 rfl ?_
    refine Road.bipush 318 (7 : Int32) b0_d318 rfl ?_
    refine Road.iload 320 b0_d320 rfl ?_
    refine Road.callS (B' := bAt) 322 (argsL := [(.ref r), (.ref t), (.int (Nat.toInt32 7)), (.int (Nat.toInt32 L.length))]) (rest := []) 0 b0_d322 (hw _ (List.mem_of_getElem? (i := 135) rfl)) (hw _ (List.mem_of_getElem? (i := 136) rfl)) (hw _ (List.mem_of_getElem? (i := 2) rfl)) (hw _ (List.mem_of_getElem? (i := 137) rfl)) (by decide) (cAt l Z a0 hw n0 hEW r rd t L 7 h_409 σ_410 T F (by decide) cp Hc hcp fm hfm Hf) (lenOf bAt_pd rfl) rfl rfl rfl (by decide) (by decide) (ce' := 36) (sl' := 233) rfl rfl (by decide) (by decide) ?_
    rintro _ h_450 σ_451 m_452 ⟨rfl, rfl⟩
    refine Road.Go.weaken (σ' := σ_410) m_452 (Nat.le_refl _) (Nat.le_refl _) ?_
    refine Road.if_eq 325 472 b0_d325 rfl (fun q => absurd q (by decide)) (fun hc325 => ?_)
    refine Road.aload 328 b0_d328 rfl ?_
    refine Road.aload 330 b0_d330 rfl ?_
    refine Road.bipush 332 (8 : Int32) b0_d332 rfl ?_
    refine Road.iload 334 b0_d334 rfl ?_
    refine Road.callS (B' := bAt) 336 (argsL := [(.ref r), (.ref t), (.int (Nat.toInt32 8)), (.int (Nat.toInt32 L.length))]) (rest := []) 0 b0_d336 (hw _ (List.mem_of_getElem? (i := 135) rfl)) (hw _ (List.mem_of_getElem? (i := 136) rfl)) (hw _ (List.mem_of_getElem? (i := 2) rfl)) (hw _ (List.mem_of_getElem? (i := 137) rfl)) (by decide) (cAt l Z a0 hw n0 hEW r rd t L 8 h_409 σ_410 T F (by decide) cp Hc hcp fm hfm Hf) (lenOf bAt_pd rfl) rfl rfl rfl (by decide) (by decide) (ce' := 36) (sl' := 233) rfl rfl (by decide) (by decide) ?_
    rintro _ h_454 σ_455 m_456 ⟨rfl, rfl⟩
    refine Road.Go.weaken (σ' := σ_410) m_456 (Nat.le_refl _) (Nat.le_refl _) ?_
    refine Road.if_eq 339 472 b0_d339 rfl (fun q => absurd q (by decide)) (fun hc339 => ?_)
    refine Road.aload 342 b0_d342 rfl ?_
    refine Road.aload 344 b0_d344 rfl ?_
    refine Road.bipush 346 (9 : Int32) b0_d346 rfl ?_
    refine Road.iload 348 b0_d348 rfl ?_
    refine Road.callS (B' := bAt) 350 (argsL := [(.ref r), (.ref t), (.int (Nat.toInt32 9)), (.int (Nat.toInt32 L.length))]) (rest := []) 0 b0_d350 (hw _ (List.mem_of_getElem? (i := 135) rfl)) (hw _ (List.mem_of_getElem? (i := 136) rfl)) (hw _ (List.mem_of_getElem? (i := 2) rfl)) (hw _ (List.mem_of_getElem? (i := 137) rfl)) (by decide) (cAt l Z a0 hw n0 hEW r rd t L 9 h_409 σ_410 T F (by decide) cp Hc hcp fm hfm Hf) (lenOf bAt_pd rfl) rfl rfl rfl (by decide) (by decide) (ce' := 36) (sl' := 233) rfl rfl (by decide) (by decide) ?_
    rintro _ h_458 σ_459 m_460 ⟨rfl, rfl⟩
    refine Road.Go.weaken (σ' := σ_410) m_460 (Nat.le_refl _) (Nat.le_refl _) ?_
    refine Road.if_eq 353 472 b0_d353 rfl (fun q => absurd q (by decide)) (fun hc353 => ?_)
    refine Road.aload 356 b0_d356 rfl ?_
    refine Road.aload 358 b0_d358 rfl ?_
    refine Road.bipush 360 (10 : Int32) b0_d360 rfl ?_
    refine Road.iload 362 b0_d362 rfl ?_
    refine Road.callS (B' := bAt) 364 (argsL := [(.ref r), (.ref t), (.int (Nat.toInt32 10)), (.int (Nat.toInt32 L.length))]) (rest := []) 0 b0_d364 (hw _ (List.mem_of_getElem? (i := 135) rfl)) (hw _ (List.mem_of_getElem? (i := 136) rfl)) (hw _ (List.mem_of_getElem? (i := 2) rfl)) (hw _ (List.mem_of_getElem? (i := 137) rfl)) (by decide) (cAt l Z a0 hw n0 hEW r rd t L 10 h_409 σ_410 T F (by decide) cp Hc hcp fm hfm Hf) (lenOf bAt_pd rfl) rfl rfl rfl (by decide) (by decide) (ce' := 36) (sl' := 233) rfl rfl (by decide) (by decide) ?_
    rintro _ h_462 σ_463 m_464 ⟨rfl, rfl⟩
    refine Road.Go.weaken (σ' := σ_410) m_464 (Nat.le_refl _) (Nat.le_refl _) ?_
    refine Road.if_eq 367 472 b0_d367 rfl (fun q => absurd q (by decide)) (fun hc367 => ?_)
    refine Road.aload 370 b0_d370 rfl ?_
    refine Road.aload 372 b0_d372 rfl ?_
    refine Road.bipush 374 (11 : Int32) b0_d374 rfl ?_
    refine Road.iload 376 b0_d376 rfl ?_
    refine Road.callS (B' := bAt) 378 (argsL := [(.ref r), (.ref t), (.int (Nat.toInt32 11)), (.int (Nat.toInt32 L.length))]) (rest := []) 0 b0_d378 (hw _ (List.mem_of_getElem? (i := 135) rfl)) (hw _ (List.mem_of_getElem? (i := 136) rfl)) (hw _ (List.mem_of_getElem? (i := 2) rfl)) (hw _ (List.mem_of_getElem? (i := 137) rfl)) (by decide) (cAt l Z a0 hw n0 hEW r rd t L 11 h_409 σ_410 T F (by decide) cp Hc hcp fm hfm Hf) (lenOf bAt_pd rfl) rfl rfl rfl (by decide) (by decide) (ce' := 36) (sl' := 233) rfl rfl (by decide) (by decide) ?_
    rintro _ h_466 σ_467 m_468 ⟨rfl, rfl⟩
    refine Road.Go.weaken (σ' := σ_410) m_468 (Nat.le_refl _) (Nat.le_refl _) ?_
    refine Road.if_eq 381 472 b0_d381 rfl (fun q => absurd q (by decide)) (fun hc381 => ?_)
    refine Road.aload 384 b0_d384 rfl ?_
    refine Road.aload 386 b0_d386 rfl ?_
    refine Road.bipush 388 (12 : Int32) b0_d388 rfl ?_
    refine Road.iload 390 b0_d390 rfl ?_
    refine Road.callS (B' := bAt) 392 (argsL := [(.ref r), (.ref t), (.int (Nat.toInt32 12)), (.int (Nat.toInt32 L.length))]) (rest := []) 0 b0_d392 (hw _ (List.mem_of_getElem? (i := 135) rfl)) (hw _ (List.mem_of_getElem? (i := 136) rfl)) (hw _ (List.mem_of_getElem? (i := 2) rfl)) (hw _ (List.mem_of_getElem? (i := 137) rfl)) (by decide) (cAt l Z a0 hw n0 hEW r rd t L 12 h_409 σ_410 T F (by decide) cp Hc hcp fm hfm Hf) (lenOf bAt_pd rfl) rfl rfl rfl (by decide) (by decide) (ce' := 36) (sl' := 233) rfl rfl (by decide) (by decide) ?_
    rintro _ h_470 σ_471 m_472 ⟨rfl, rfl⟩
    refine Road.Go.weaken (σ' := σ_410) m_472 (Nat.le_refl _) (Nat.le_refl _) ?_
    refine Road.if_eq 395 472 b0_d395 rfl (fun q => absurd q (by decide)) (fun hc395 => ?_)
    refine Road.aload 398 b0_d398 rfl ?_
    refine Road.aload 400 b0_d400 rfl ?_
    refine Road.bipush 402 (13 : Int32) b0_d402 rfl ?_
    refine Road.iload 404 b0_d404 rfl ?_
    refine Road.callS (B' := bAt) 406 (argsL := [(.ref r), (.ref t), (.int (Nat.toInt32 13)), (.int (Nat.toInt32 L.length))]) (rest := []) 0 b0_d406 (hw _ (List.mem_of_getElem? (i := 135) rfl)) (hw _ (List.mem_of_getElem? (i := 136) rfl)) (hw _ (List.mem_of_getElem? (i := 2) rfl)) (hw _ (List.mem_of_getElem? (i := 137) rfl)) (by decide) (cAt l Z a0 hw n0 hEW r rd t L 13 h_409 σ_410 T F (by decide) cp Hc hcp fm hfm Hf) (lenOf bAt_pd rfl) rfl rfl rfl (by decide) (by decide) (ce' := 36) (sl' := 233) rfl rfl (by decide) (by decide) ?_
    rintro _ h_474 σ_475 m_476 ⟨rfl, rfl⟩
    refine Road.Go.weaken (σ' := σ_410) m_476 (Nat.le_refl _) (Nat.le_refl _) ?_
    refine Road.if_eq 409 472 b0_d409 rfl (fun q => absurd q (by decide)) (fun hc409 => ?_)
    refine Road.aload 412 b0_d412 rfl ?_
    refine Road.aload 414 b0_d414 rfl ?_
    refine Road.bipush 416 (14 : Int32) b0_d416 rfl ?_
    refine Road.iload 418 b0_d418 rfl ?_
    refine Road.callS (B' := bAt) 420 (argsL := [(.ref r), (.ref t), (.int (Nat.toInt32 14)), (.int (Nat.toInt32 L.length))]) (rest := []) 0 b0_d420 (hw _ (List.mem_of_getElem? (i := 135) rfl)) (hw _ (List.mem_of_getElem? (i := 136) rfl)) (hw _ (List.mem_of_getElem? (i := 2) rfl)) (hw _ (List.mem_of_getElem? (i := 137) rfl)) (by decide) (cAt l Z a0 hw n0 hEW r rd t L 14 h_409 σ_410 T F (by decide) cp Hc hcp fm hfm Hf) (lenOf bAt_pd rfl) rfl rfl rfl (by decide) (by decide) (ce' := 36) (sl' := 233) rfl rfl (by decide) (by decide) ?_
    rintro _ h_478 σ_479 m_480 ⟨rfl, rfl⟩
    refine Road.Go.weaken (σ' := σ_410) m_480 (Nat.le_refl _) (Nat.le_refl _) ?_
    refine Road.if_eq 423 472 b0_d423 rfl (fun q => absurd q (by decide)) (fun hc423 => ?_)
    refine Road.aload 426 b0_d426 rfl ?_
    refine Road.aload 428 b0_d428 rfl ?_
    refine Road.bipush 430 (15 : Int32) b0_d430 rfl ?_
    refine Road.iload 432 b0_d432 rfl ?_
    refine Road.callS (B' := bAt) 434 (argsL := [(.ref r), (.ref t), (.int (Nat.toInt32 15)), (.int (Nat.toInt32 L.length))]) (rest := []) 0 b0_d434 (hw _ (List.mem_of_getElem? (i := 135) rfl)) (hw _ (List.mem_of_getElem? (i := 136) rfl)) (hw _ (List.mem_of_getElem? (i := 2) rfl)) (hw _ (List.mem_of_getElem? (i := 137) rfl)) (by decide) (cAt l Z a0 hw n0 hEW r rd t L 15 h_409 σ_410 T F (by decide) cp Hc hcp fm hfm Hf) (lenOf bAt_pd rfl) rfl rfl rfl (by decide) (by decide) (ce' := 36) (sl' := 233) rfl rfl (by decide) (by decide) ?_
    rintro _ h_482 σ_483 m_484 ⟨rfl, rfl⟩
    refine Road.Go.weaken (σ' := σ_410) m_484 (Nat.le_refl _) (Nat.le_refl _) ?_
    refine Road.if_eq 437 472 b0_d437 rfl (fun q => absurd q (by decide)) (fun hc437 => ?_)
    refine Road.aload 440 b0_d440 rfl ?_
    refine Road.aload 442 b0_d442 rfl ?_
    refine Road.bipush 444 (16 : Int32) b0_d444 rfl ?_
    refine Road.iload 446 b0_d446 rfl ?_
    refine Road.callS (B' := bAt) 448 (argsL := [(.ref r), (.ref t), (.int (Nat.toInt32 16)), (.int (Nat.toInt32 L.length))]) (rest := []) 0 b0_d448 (hw _ (List.mem_of_getElem? (i := 135) rfl)) (hw _ (List.mem_of_getElem? (i := 136) rfl)) (hw _ (List.mem_of_getElem? (i := 2) rfl)) (hw _ (List.mem_of_getElem? (i := 137) rfl)) (by decide) (cAt l Z a0 hw n0 hEW r rd t L 16 h_409 σ_410 T F (by decide) cp Hc hcp fm hfm Hf) (lenOf bAt_pd rfl) rfl rfl rfl (by decide) (by decide) (ce' := 36) (sl' := 233) rfl rfl (by decide) (by decide) ?_
    rintro _ h_486 σ_487 m_488 ⟨rfl, rfl⟩
    refine Road.Go.weaken (σ' := σ_410) m_488 (Nat.le_refl _) (Nat.le_refl _) ?_
    refine Road.if_eq 451 472 b0_d451 rfl (fun q => absurd q (by decide)) (fun hc451 => ?_)
    refine Road.aload 454 b0_d454 rfl ?_
    refine Road.aload 456 b0_d456 rfl ?_
    refine Road.bipush 458 (17 : Int32) b0_d458 rfl ?_
    refine Road.iload 460 b0_d460 rfl ?_
    refine Road.callS (B' := bAt) 462 (argsL := [(.ref r), (.ref t), (.int (Nat.toInt32 17)), (.int (Nat.toInt32 L.length))]) (rest := []) 0 b0_d462 (hw _ (List.mem_of_getElem? (i := 135) rfl)) (hw _ (List.mem_of_getElem? (i := 136) rfl)) (hw _ (List.mem_of_getElem? (i := 2) rfl)) (hw _ (List.mem_of_getElem? (i := 137) rfl)) (by decide) (cAt l Z a0 hw n0 hEW r rd t L 17 h_409 σ_410 T F (by decide) cp Hc hcp fm hfm Hf) (lenOf bAt_pd rfl) rfl rfl rfl (by decide) (by decide) (ce' := 36) (sl' := 233) rfl rfl (by decide) (by decide) ?_
    rintro _ h_490 σ_491 m_492 ⟨rfl, rfl⟩
    refine Road.Go.weaken (σ' := σ_410) m_492 (Nat.le_refl _) (Nat.le_refl _) ?_
    refine Road.if_eq 465 472 b0_d465 rfl (fun q => absurd q (by decide)) (fun hc465 => ?_)
    refine Road.iconst 468 (1 : Int32) b0_d468 rfl ?_
    refine Road.goto 469 473 b0_d469 rfl ?_
    exact Road.iret 473 1 b0_d473 (t := .boolean) rfl (by simp) rfl (by decide) (by decide) (fun σ' m => rfl)
set_option maxHeartbeats 40000000 in
theorem comes_1 {Post : Tables → Env → Array Value → State → Outcome → State → Prop} (hpost : ∀ tb e args s v u, (limb_1_1.after args s (.returned v) u = true ∧ limb_1_2.after args s (.returned v) u = true ∧ True) → ReturnedEndW s (.returned v) u (Jvm.fieldLocs frame_1_writes args s ++ Jvm.arrayLocs frame_1_arrays args s ++ Jvm.staticLocs frame_1_statics s) 64 7552 → Post tb e args s (.returned v) u) :
    ArmFor flags0 classFile x code maxLocals ret World_1 tables_1 room_1 Calls_1 rest_1 Pre_1 Post := by
  intro l hfl _ _ p e ha hc hk s m args below hf hA hF happ hP
  obtain ⟨hcalls, hrest, hpre⟩ := hP
  obtain ⟨-, -, -, hnamed, -, -, -, hat⟩ := (Spec.applies_iff hf).mp happ
  obtain ⟨hg, hn⟩ := and_e (Cond.before_iff.mp (show (Jvm.Cond.and given_1 narrow_1).before args s = true from hpre))
  obtain ⟨h1, hr1⟩ := and_e hg
  obtain ⟨g0, hr2⟩ := and_e hr1
  obtain ⟨g1, hr3⟩ := and_e hr2
  have g2 := hr3
  obtain ⟨w0, w1, w2, rfl⟩ : ∃ w0 w1 w2 : Value, args = #[w0, w1, w2] := by
    have hs : args.size = 3 := by simpa [Cond.value, given_1] using h1
    obtain ⟨L⟩ := args
    match L, hs with
    | [w0, w1, w2], _ => exact ⟨w0, w1, w2, rfl⟩
  obtain ⟨p0, ev0⟩ := is_v g0
  obtain rfl : w0 = (.int p0) := Option.some.inj ev0
  obtain ⟨p1, ev1⟩ := is_v g1
  obtain rfl : w1 = (.int p1) := Option.some.inj ev1
  obtain ⟨p2, ev2⟩ := is_v g2
  obtain rfl : w2 = (.int p2) := Option.some.inj ev2
  have hw := fun d (hd : d ∈ tables_1) => atoms_spec (ws := Jvm.Cond.code x code maxLocals ret :: tables_1) hat d (List.mem_cons_of_mem _ hd)
  obtain ⟨hsets, hown0⟩ := atoms_of _ (rest_1_c_eq ▸ (show rest_1_c.before _ s = true from hrest))
  have hfit : Fit s := fun {y c} hc i hi => by
    obtain ⟨ha, rfl⟩ := Array.getElem?_eq_some_iff.mp hc
    have q := List.all_eq_true.mp ((Array.all_eq_true_iff_forall_mem.mp hF) _ (Array.getElem_mem ha)) i (List.mem_range.mpr hi)
    simpa [Array.getElem?_eq_getElem hi] using q
  have hcw := hsets _ (List.mem_of_getElem? (i := 11) rfl)
  have n5 := not_v (Cond.before_iff.mp hcw)
  obtain ⟨cp, e10⟩ := is_v (Cond.before_iff.mp (hsets _ (List.mem_of_getElem? (i := 10) rfl)))
  have Hc : Sta s s.heap "java/lang/String" "COMPACT_STRINGS" "Z" (.int cp) := Sta.start e10 (Or.inl (hsets _ (List.mem_of_getElem? (i := 9) rfl)))
  have hcp : ¬ (cp = (0 : Int32)) := gotF (Cond.eq_ints e10 (Term.int_eval (0))) n5
  have hEW : EW s _ consts_1 := (EW.cons (hw _ (List.mem_of_getElem? (i := 186) rfl)) (by decide) (EW.cons (hw _ (List.mem_of_getElem? (i := 281) rfl)) (by decide) (EW.cons (hw _ (List.mem_of_getElem? (i := 241) rfl)) (by decide) (EW.cons (hw _ (List.mem_of_getElem? (i := 300) rfl)) (by decide) (EW.cons (hw _ (List.mem_of_getElem? (i := 320) rfl)) (by decide) (EW.cons (hw _ (List.mem_of_getElem? (i := 319) rfl)) (by decide) (EW.cons (hw _ (List.mem_of_getElem? (i := 183) rfl)) (by decide) EW.nil)))))))
  have hCH : CHv s consts_1 s.vm s.heap := CHv.start hEW (fun q hq => hcalls.1 q hq) hcw (hw _ (List.mem_of_getElem? (i := 49) rfl)) (hw _ (List.mem_of_getElem? (i := 71) rfl))
  obtain ⟨fm, efm, hfm⟩ := isR_v (Cond.before_iff.mp (hsets _ (List.mem_of_getElem? (i := 17) rfl)))
  have Hf : Sta s s.heap "jdk/internal/util/Preconditions" "SIOOBE_FORMATTER" "Ljava/util/function/BiFunction;" fm := Sta.start efm (Or.inl (hsets _ (List.mem_of_getElem? (i := 16) rfl)))
  obtain ⟨da, eda⟩ := arr_v (Cond.before_iff.mp (hsets _ (List.mem_of_getElem? (i := 6) rfl)))
  have HDa := Sta.start eda (Or.inr ⟨(hw _ (List.mem_of_getElem? (i := 6) rfl)), hsets _ (List.mem_of_getElem? (i := 2) rfl)⟩)
  have ADa := Road.Ary.start (vs := []) eda (Cond.before_iff.mp (hsets _ (List.mem_of_getElem? (i := 6) rfl))) (Cond.before_iff.mp (hsets _ (List.mem_of_getElem? (i := 8) rfl))) rfl (fun i hi => absurd hi (Nat.not_lt_zero _)) (by simp)
  obtain ⟨n, o, z1, z2, z3, v, L, rfl, hQ, N, -, -, hE⟩ := law l s _ hw s.heap.size hEW p0 p1 p2 s.heap (fun _ => False) cp Hc hcp fm hfm Hf da HDa ADa tables_1 p e ha hc hk s m _ below hf ((Spec.applies_iff_loose hf).mp happ).1 ⟨rfl, State.Warmed39.refl s, rfl, hCH, Old.start s, fun _ q => q.elim⟩ (fun q => nomatch q)
  have hQ : v = some (.int 1) := hQ
  subst hQ
  refine ⟨n, _, z1, z2, z3, hpost _ _ _ _ _ _ ⟨Cond.after_iff.mpr rfl, Cond.after_iff.mpr (eq_i res_at (Term.int_eval (1)) rfl), trivial⟩ ⟨hE.1, hE.2.1, hE.2.2.1, (hE.2.2.2.sift fun y hy => Or.inr (N y hy)).mono (by decide) (by decide)⟩⟩
theorem main_1_1 : Claimed_1_1 := comes_1 fun _ _ _ _ _ _ h hF => ⟨h.1, hF⟩
theorem main_1_2 : Claimed_1_2 := comes_1 fun _ _ _ _ _ _ h hF => ⟨h.2.1, hF⟩
end Jvm.Pilot.@@N@@
namespace Jvm.Pilot.@@N@@
open Jvm Jvm.ClassFile Sem Op Lib Jvm.Free Jvm.Stand Jvm.Pilot.@@N@@.Jvm.D
/-! MADE BY PROGRAM (witnessworld.py) out of the Statement's table words and the real class files: 36 classes; the members and pool entries that the words name. The judged class is class 1, her method 1. -/
namespace start1
open Jvm.ClassFile
def u (s : String) : CpInfo := .utf8 (stringToUtf16 s)
/-- a pool by its gaps: so many unusable entries, then the entry; so many at the end -/
def gap : Nat → List CpInfo → List CpInfo
  | 0, r => r
  | n + 1, r => .unusable :: gap n r
def poolList (es : List (Nat × CpInfo)) (last : Nat) : List CpInfo := es.foldr (fun e r => gap e.1 (e.2 :: r)) (gap last [])
def pool (es : List (Nat × CpInfo)) (last : Nat) : Array CpInfo := ⟨poolList es last⟩
def fileOf (pool : Array CpInfo) (this : Nat) (attrs : Array Attribute := #[]) (ms : Array MethodInfo := #[]) (fl : Nat := 33) (sup : Nat := 0) (ifs : Array Nat := #[]) (fds : Array FieldInfo := #[]) : ClassFile where
  minorVersion := 0
  majorVersion := 65
  constantPool := pool
  accessFlags := fl
  thisClass := this
  superClass := sup
  interfaces := ifs
  fields := fds
  methods := ms
  attributes := attrs
def plain (name : String) (sup : Option ClassId) : Class where
  name := name
  kind := .ordinary
  loader := none
  accessFlags := 33
  super := sup
  interfaces := #[]
  cf := none
  fields := #[]
  methods := #[]
  instanceTypes := #[]
  staticTypes := #[]
  resolved := #[]
  callSites := []
  init := .initialized
  statics := none
  mirror := none

def pool0 : Array CpInfo := pool [(5, u "<init>"), (0, u "()V"), (1, .class_ 10), (1, u "java/lang/Object"), (85, u "clone"), (0, u "()Ljava/lang/Object;")] 26

def k0c0 : Code := { maxStack := 0, maxLocals := 1, code := object_method_1_code, exceptionTable := #[], attributes := #[] }
def k0m0 : Method := { name := "<init>", desc := "()V", sig := { parameters := [], returnType := none }, accessFlags := 1, code := some k0c0 }
def k0m1 : Method := { name := "clone", desc := "()Ljava/lang/Object;", sig := { parameters := [], returnType := some (.object "java/lang/Object") }, accessFlags := 260, code := none }
/-- java/lang/Object -/
def k0 : Class := { plain "java/lang/Object" none with
  accessFlags := 33
  interfaces := #[]
  cf := some (fileOf pool0 8 #[] #[{ accessFlags := 1, nameIndex := 5, descriptorIndex := 6, attributes := #[] }, { accessFlags := 260, nameIndex := 96, descriptorIndex := 97, attributes := #[] }] 33 0 #[] #[])
  fields := #[]
  methods := #[k0m0, k0m1]
  instanceTypes := #[]
  staticTypes := #[]
  resolved := Array.replicate 124 none
  statics := none }

def pool1 : Array CpInfo := pool [(2, .class_ 4), (0, .nameAndType 5 6), (0, u "java/lang/Object"), (0, u "<init>"), (0, u "()V"), (0, .methodref 8 9), (0, .class_ 10), (0, .nameAndType 11 12), (0, u "com/example/meerkat/meerkat/metrics/ExpositionLabelsPinLaw"), (0, u "ch"), (0, u "(II)C"), (0, .class_ 14), (0, u "java/util/ArrayList"), (0, .methodref 13 3), (0, .methodref 17 18), (0, .class_ 19), (0, .nameAndType 20 21), (0, u "java/lang/String"), (0, u "valueOf"), (0, u "(C)Ljava/lang/String;"), (0, .methodref 13 23), (0, .nameAndType 24 25), (0, u "add"), (0, u "(Ljava/lang/Object;)Z"), (0, .methodref 8 27), (0, .nameAndType 28 29), (0, u "value"), (0, u "(ICC)Ljava/lang/String;"), (0, .methodref 31 32), (0, .class_ 33), (0, .nameAndType 34 35), (0, u "com/example/meerkat/meerkat/metrics/Exposition"), (0, u "labels"), (0, u "(Ljava/util/List;Ljava/util/List;)Ljava/lang/String;"), (0, .methodref 8 37), (0, .nameAndType 38 39), (0, u "label"), (0, u "([CIZCICC)I"), (0, .methodref 17 41), (0, .nameAndType 42 43), (0, u "length"), (0, u "()I"), (0, .methodref 8 45), (0, .nameAndType 46 47), (0, u "at"), (0, u "(Ljava/lang/String;[CII)Z"), (0, .methodref 17 49), (0, .nameAndType 50 51), (0, u "charAt"), (0, u "(I)C"), (0, .string 53), (0, u ""), (0, .methodref 17 55), (0, .nameAndType 5 56), (0, u "([C)V"), (0, .methodref 8 58), (0, .nameAndType 59 60), (0, u "put"), (0, u "([CIC)I"), (0, .methodref 8 62), (0, .nameAndType 63 60), (0, u "esc"), (2, u "law"), (0, u "(III)Z")] 5

def k1m0 : Method := { name := "<init>", desc := "()V", sig := { parameters := [], returnType := none }, accessFlags := 2, code := none }
def k1c1 : Code := { maxStack := 7, maxLocals := 17, code := code, exceptionTable := #[], attributes := #[] }
def k1m1 : Method := { name := "law", desc := "(III)Z", sig := { parameters := [.int, .int, .int], returnType := some .boolean }, accessFlags := 9, code := some k1c1 }
def k1c2 : Code := { maxStack := 3, maxLocals := 4, code := method_3_code, exceptionTable := #[], attributes := #[] }
def k1m2 : Method := { name := "at", desc := "(Ljava/lang/String;[CII)Z", sig := { parameters := [(.object "java/lang/String"), (.array .char), .int, .int], returnType := some .boolean }, accessFlags := 10, code := some k1c2 }
def k1c3 : Code := { maxStack := 3, maxLocals := 5, code := method_4_code, exceptionTable := #[], attributes := #[] }
def k1m3 : Method := { name := "ch", desc := "(II)C", sig := { parameters := [.int, .int], returnType := some .char }, accessFlags := 10, code := some k1c3 }
def k1c4 : Code := { maxStack := 6, maxLocals := 3, code := method_5_code, exceptionTable := #[], attributes := #[] }
def k1m4 : Method := { name := "value", desc := "(ICC)Ljava/lang/String;", sig := { parameters := [.int, .char, .char], returnType := some (.object "java/lang/String") }, accessFlags := 10, code := some k1c4 }
def k1c5 : Code := { maxStack := 3, maxLocals := 3, code := method_6_code, exceptionTable := #[], attributes := #[] }
def k1m5 : Method := { name := "put", desc := "([CIC)I", sig := { parameters := [(.array .char), .int, .char], returnType := some .int }, accessFlags := 10, code := some k1c5 }
def k1c6 : Code := { maxStack := 3, maxLocals := 3, code := method_7_code, exceptionTable := #[], attributes := #[] }
def k1m6 : Method := { name := "esc", desc := "([CIC)I", sig := { parameters := [(.array .char), .int, .char], returnType := some .int }, accessFlags := 10, code := some k1c6 }
def k1c7 : Code := { maxStack := 3, maxLocals := 8, code := method_8_code, exceptionTable := #[], attributes := #[] }
def k1m7 : Method := { name := "label", desc := "([CIZCICC)I", sig := { parameters := [(.array .char), .int, .boolean, .char, .int, .char, .char], returnType := some .int }, accessFlags := 10, code := some k1c7 }
/-- com/example/meerkat/meerkat/metrics/ExpositionLabelsPinLaw -/
def k1 : Class := { plain "com/example/meerkat/meerkat/metrics/ExpositionLabelsPinLaw" (some 0) with
  accessFlags := 49
  interfaces := #[]
  cf := some (fileOf pool1 8 #[] #[{ accessFlags := 2, nameIndex := 5, descriptorIndex := 6, attributes := #[] }, { accessFlags := 9, nameIndex := 66, descriptorIndex := 67, attributes := #[] }, { accessFlags := 10, nameIndex := 46, descriptorIndex := 47, attributes := #[] }, { accessFlags := 10, nameIndex := 11, descriptorIndex := 12, attributes := #[] }, { accessFlags := 10, nameIndex := 28, descriptorIndex := 29, attributes := #[] }, { accessFlags := 10, nameIndex := 59, descriptorIndex := 60, attributes := #[] }, { accessFlags := 10, nameIndex := 63, descriptorIndex := 60, attributes := #[] }, { accessFlags := 10, nameIndex := 38, descriptorIndex := 39, attributes := #[] }] 49 2 #[] #[])
  fields := #[]
  methods := #[k1m0, k1m1, k1m2, k1m3, k1m4, k1m5, k1m6, k1m7]
  instanceTypes := #[]
  staticTypes := #[]
  resolved := Array.replicate 73 none
  statics := none }

def pool2 : Array CpInfo := pool [(8, .class_ 10), (1, u "java/lang/Iterable"), (24, .class_ 36), (0, u "java/lang/Object")] 25

/-- java/lang/Iterable -/
def k2 : Class := { plain "java/lang/Iterable" (some 0) with
  accessFlags := 1537
  interfaces := #[]
  cf := some (fileOf pool2 8 #[] #[] 1537 35 #[] #[])
  fields := #[]
  methods := #[]
  instanceTypes := #[]
  staticTypes := #[]
  resolved := Array.replicate 62 none
  statics := none }

def pool3 : Array CpInfo := pool [(10, .class_ 12), (1, u "java/util/Collection"), (47, .class_ 61), (0, u "java/lang/Object"), (0, .class_ 63), (0, u "java/lang/Iterable")] 51

/-- java/util/Collection -/
def k3 : Class := { plain "java/util/Collection" (some 0) with
  accessFlags := 1537
  interfaces := #[2]
  cf := some (fileOf pool3 10 #[] #[] 1537 60 #[62] #[])
  fields := #[]
  methods := #[]
  instanceTypes := #[]
  staticTypes := #[]
  resolved := Array.replicate 115 none
  statics := none }

def pool4 : Array CpInfo := pool [(1, .methodref 2 3), (0, .class_ 4), (0, .nameAndType 5 6), (0, u "java/lang/Object"), (0, u "<init>"), (0, u "()V"), (1, .class_ 10), (1, u "java/util/AbstractCollection"), (66, .class_ 78), (0, u "java/util/Collection")] 81

def k4c0 : Code := { maxStack := 1, maxLocals := 1, code := jdk_22_method_1_code, exceptionTable := #[], attributes := #[] }
def k4m0 : Method := { name := "<init>", desc := "()V", sig := { parameters := [], returnType := none }, accessFlags := 4, code := some k4c0 }
/-- java/util/AbstractCollection -/
def k4 : Class := { plain "java/util/AbstractCollection" (some 0) with
  accessFlags := 1057
  interfaces := #[3]
  cf := some (fileOf pool4 8 #[] #[{ accessFlags := 4, nameIndex := 5, descriptorIndex := 6, attributes := #[] }] 1057 2 #[77] #[])
  fields := #[]
  methods := #[k4m0]
  instanceTypes := #[]
  staticTypes := #[]
  resolved := Array.replicate 160 none
  statics := none }

def pool5 : Array CpInfo := pool [(8, .class_ 10), (1, u "java/util/SequencedCollection"), (15, .class_ 27), (0, u "java/lang/Object"), (0, .class_ 29), (0, u "java/util/Collection")] 27

/-- java/util/SequencedCollection -/
def k5 : Class := { plain "java/util/SequencedCollection" (some 0) with
  accessFlags := 1537
  interfaces := #[3]
  cf := some (fileOf pool5 8 #[] #[] 1537 26 #[28] #[])
  fields := #[]
  methods := #[]
  instanceTypes := #[]
  staticTypes := #[]
  resolved := Array.replicate 57 none
  statics := none }

def pool6 : Array CpInfo := pool [(8, .class_ 10), (1, u "java/util/List"), (64, u "get"), (0, u "(I)Ljava/lang/Object;"), (2, u "size"), (0, u "()I"), (22, .class_ 104), (0, u "java/lang/Object"), (15, .class_ 121), (0, u "java/util/SequencedCollection")] 129

def k6m0 : Method := { name := "size", desc := "()I", sig := { parameters := [], returnType := some .int }, accessFlags := 1025, code := none }
def k6m1 : Method := { name := "get", desc := "(I)Ljava/lang/Object;", sig := { parameters := [.int], returnType := some (.object "java/lang/Object") }, accessFlags := 1025, code := none }
/-- java/util/List -/
def k6 : Class := { plain "java/util/List" (some 0) with
  accessFlags := 1537
  interfaces := #[5]
  cf := some (fileOf pool6 8 #[] #[{ accessFlags := 1025, nameIndex := 79, descriptorIndex := 80, attributes := #[] }, { accessFlags := 1025, nameIndex := 75, descriptorIndex := 76, attributes := #[] }] 1537 103 #[120] #[])
  fields := #[]
  methods := #[k6m0, k6m1]
  instanceTypes := #[]
  staticTypes := #[]
  resolved := Array.replicate 251 none
  statics := none }

def pool7 : Array CpInfo := pool [(1, .methodref 2 3), (0, .class_ 4), (0, .nameAndType 5 6), (0, u "java/util/AbstractCollection"), (0, u "<init>"), (0, u "()V"), (0, .fieldref 8 9), (0, .class_ 10), (0, .nameAndType 11 12), (0, u "java/util/AbstractList"), (0, u "modCount"), (0, u "I"), (64, .class_ 78), (0, u "java/util/AbstractList$Itr"), (3, .class_ 83), (0, u "java/util/AbstractList$ListItr"), (9, .class_ 94), (0, u "java/util/AbstractList$RandomAccessSubList"), (3, .class_ 99), (0, u "java/util/AbstractList$SubList"), (33, .class_ 134), (0, u "java/util/List"), (73, .class_ 209), (0, u "java/util/AbstractList$SubList$1"), (0, .class_ 211), (0, u "java/util/AbstractList$RandomAccessSpliterator")] 6

def k7c0 : Code := { maxStack := 2, maxLocals := 1, code := jdk_39_method_1_code, exceptionTable := #[], attributes := #[] }
def k7m0 : Method := { name := "<init>", desc := "()V", sig := { parameters := [], returnType := none }, accessFlags := 4, code := some k7c0 }
/-- java/util/AbstractList -/
def k7 : Class := { plain "java/util/AbstractList" (some 4) with
  accessFlags := 1057
  interfaces := #[6]
  cf := some (fileOf pool7 8 #[.nestMembers #[93, 98, 208, 210, 82, 77]] #[{ accessFlags := 4, nameIndex := 5, descriptorIndex := 6, attributes := #[] }] 1057 2 #[133] #[{ accessFlags := 132, nameIndex := 11, descriptorIndex := 12, attributes := #[] }])
  fields := #[{ name := "modCount", type := .int, accessFlags := 132, slot := 0, constantValue := 0 }]
  methods := #[k7m0]
  instanceTypes := #[.int]
  staticTypes := #[]
  resolved := Array.replicate 218 none
  statics := none }

def pool8 : Array CpInfo := pool [(1, .class_ 2), (0, u "java/util/RandomAccess"), (0, .class_ 4), (0, u "java/lang/Object")] 2

/-- java/util/RandomAccess -/
def k8 : Class := { plain "java/util/RandomAccess" (some 0) with
  accessFlags := 1537
  interfaces := #[]
  cf := some (fileOf pool8 1 #[] #[] 1537 3 #[] #[])
  fields := #[]
  methods := #[]
  instanceTypes := #[]
  staticTypes := #[]
  resolved := Array.replicate 7 none
  statics := none }

def pool9 : Array CpInfo := pool [(1, .class_ 2), (0, u "java/lang/Cloneable"), (0, .class_ 4), (0, u "java/lang/Object")] 2

/-- java/lang/Cloneable -/
def k9 : Class := { plain "java/lang/Cloneable" (some 0) with
  accessFlags := 1537
  interfaces := #[]
  cf := some (fileOf pool9 1 #[] #[] 1537 3 #[] #[])
  fields := #[]
  methods := #[]
  instanceTypes := #[]
  staticTypes := #[]
  resolved := Array.replicate 7 none
  statics := none }

def pool10 : Array CpInfo := pool [(1, .class_ 2), (0, u "java/io/Serializable"), (0, .class_ 4), (0, u "java/lang/Object")] 2

/-- java/io/Serializable -/
def k10 : Class := { plain "java/io/Serializable" (some 0) with
  accessFlags := 1537
  interfaces := #[]
  cf := some (fileOf pool10 1 #[] #[] 1537 3 #[] #[])
  fields := #[]
  methods := #[]
  instanceTypes := #[]
  staticTypes := #[]
  resolved := Array.replicate 7 none
  statics := none }

def pool11 : Array CpInfo := pool [(1, .methodref 2 3), (0, .class_ 4), (0, .nameAndType 5 6), (0, u "java/util/AbstractList"), (0, u "<init>"), (0, u "()V"), (0, .class_ 8), (0, u "java/lang/Object"), (0, .fieldref 10 11), (0, .class_ 12), (0, .nameAndType 13 14), (0, u "java/util/ArrayList"), (0, u "elementData"), (0, u "[Ljava/lang/Object;"), (2, u "EMPTY_ELEMENTDATA"), (21, .fieldref 10 40), (0, .nameAndType 41 14), (0, u "DEFAULTCAPACITY_EMPTY_ELEMENTDATA"), (5, u "()[Ljava/lang/Object;"), (0, .fieldref 10 49), (0, .nameAndType 50 51), (0, u "size"), (0, u "I"), (11, .fieldref 10 64), (0, .nameAndType 65 51), (0, u "modCount"), (3, .methodref 10 70), (0, .nameAndType 71 72), (0, u "grow"), (0, u "(I)[Ljava/lang/Object;"), (6, .methodref 80 81), (0, .class_ 82), (0, .nameAndType 83 84), (0, u "java/lang/Math"), (0, u "max"), (0, u "(II)I"), (11, u "(Ljava/lang/Object;)Z"), (21, .methodref 119 120), (0, .class_ 121), (0, .nameAndType 122 84), (0, u "java/util/Objects"), (0, u "checkIndex"), (0, .methodref 10 124), (0, .nameAndType 13 125), (0, u "(I)Ljava/lang/Object;"), (3, .methodref 10 130), (0, .nameAndType 71 47), (0, .methodref 10 132), (0, .nameAndType 133 134), (0, u "add"), (0, u "(Ljava/lang/Object;[Ljava/lang/Object;I)V"), (13, .class_ 149), (0, u "java/util/List"), (36, u "()I"), (75, .class_ 263), (0, u "java/util/ArrayList$ListItr"), (3, .class_ 268), (0, u "java/util/ArrayList$Itr"), (7, .class_ 277), (0, u "java/util/ArrayList$SubList"), (12, .class_ 291), (0, u "java/util/ArrayList$ArrayListSpliterator"), (37, .class_ 330), (0, u "java/util/RandomAccess"), (0, .class_ 332), (0, u "java/lang/Cloneable"), (0, .class_ 334), (0, u "java/io/Serializable"), (0, u "serialVersionUID"), (0, u "J"), (3, u "DEFAULT_CAPACITY"), (40, u "get"), (118, .class_ 501), (0, u "java/util/ArrayList$SubList$2"), (0, .class_ 503), (0, u "java/util/ArrayList$SubList$1")] 5

def k11c0 : Code := { maxStack := 2, maxLocals := 1, code := jdk_38_method_2_code, exceptionTable := #[], attributes := #[] }
def k11m0 : Method := { name := "<init>", desc := "()V", sig := { parameters := [], returnType := none }, accessFlags := 1, code := some k11c0 }
def k11c1 : Code := { maxStack := 4, maxLocals := 4, code := jdk_38_method_6_code, exceptionTable := #[], attributes := #[] }
def k11m1 : Method := { name := "grow", desc := "(I)[Ljava/lang/Object;", sig := { parameters := [.int], returnType := some (.array (.object "java/lang/Object")) }, accessFlags := 2, code := some k11c1 }
def k11c2 : Code := { maxStack := 3, maxLocals := 1, code := jdk_38_method_7_code, exceptionTable := #[], attributes := #[] }
def k11m2 : Method := { name := "grow", desc := "()[Ljava/lang/Object;", sig := { parameters := [], returnType := some (.array (.object "java/lang/Object")) }, accessFlags := 2, code := some k11c2 }
def k11c3 : Code := { maxStack := 1, maxLocals := 1, code := jdk_38_method_8_code, exceptionTable := #[], attributes := #[] }
def k11m3 : Method := { name := "size", desc := "()I", sig := { parameters := [], returnType := some .int }, accessFlags := 1, code := some k11c3 }
def k11c4 : Code := { maxStack := 2, maxLocals := 2, code := jdk_38_method_18_code, exceptionTable := #[], attributes := #[] }
def k11m4 : Method := { name := "elementData", desc := "(I)Ljava/lang/Object;", sig := { parameters := [.int], returnType := some (.object "java/lang/Object") }, accessFlags := 0, code := some k11c4 }
def k11c5 : Code := { maxStack := 2, maxLocals := 2, code := jdk_38_method_20_code, exceptionTable := #[], attributes := #[] }
def k11m5 : Method := { name := "get", desc := "(I)Ljava/lang/Object;", sig := { parameters := [.int], returnType := some (.object "java/lang/Object") }, accessFlags := 1, code := some k11c5 }
def k11c6 : Code := { maxStack := 3, maxLocals := 4, code := jdk_38_method_24_code, exceptionTable := #[], attributes := #[] }
def k11m6 : Method := { name := "add", desc := "(Ljava/lang/Object;[Ljava/lang/Object;I)V", sig := { parameters := [(.object "java/lang/Object"), (.array (.object "java/lang/Object")), .int], returnType := none }, accessFlags := 2, code := some k11c6 }
def k11c7 : Code := { maxStack := 4, maxLocals := 2, code := jdk_38_method_25_code, exceptionTable := #[], attributes := #[] }
def k11m7 : Method := { name := "add", desc := "(Ljava/lang/Object;)Z", sig := { parameters := [(.object "java/lang/Object")], returnType := some .boolean }, accessFlags := 1, code := some k11c7 }
/-- java/util/ArrayList -/
def k11 : Class := { plain "java/util/ArrayList" (some 7) with
  accessFlags := 33
  interfaces := #[6, 8, 9, 10]
  cf := some (fileOf pool11 10 #[.nestMembers #[290, 276, 500, 502, 262, 267]] #[{ accessFlags := 1, nameIndex := 5, descriptorIndex := 6, attributes := #[] }, { accessFlags := 2, nameIndex := 71, descriptorIndex := 72, attributes := #[] }, { accessFlags := 2, nameIndex := 71, descriptorIndex := 47, attributes := #[] }, { accessFlags := 1, nameIndex := 50, descriptorIndex := 186, attributes := #[] }, { accessFlags := 0, nameIndex := 13, descriptorIndex := 125, attributes := #[] }, { accessFlags := 1, nameIndex := 381, descriptorIndex := 125, attributes := #[] }, { accessFlags := 2, nameIndex := 133, descriptorIndex := 134, attributes := #[] }, { accessFlags := 1, nameIndex := 133, descriptorIndex := 96, attributes := #[] }] 33 2 #[148, 329, 331, 333] #[{ accessFlags := 26, nameIndex := 335, descriptorIndex := 336, attributes := #[] }, { accessFlags := 26, nameIndex := 340, descriptorIndex := 51, attributes := #[] }, { accessFlags := 26, nameIndex := 17, descriptorIndex := 14, attributes := #[] }, { accessFlags := 26, nameIndex := 41, descriptorIndex := 14, attributes := #[] }, { accessFlags := 128, nameIndex := 13, descriptorIndex := 14, attributes := #[] }, { accessFlags := 2, nameIndex := 50, descriptorIndex := 51, attributes := #[] }])
  fields := #[{ name := "serialVersionUID", type := .long, accessFlags := 26, slot := 0, constantValue := 0 }, { name := "DEFAULT_CAPACITY", type := .int, accessFlags := 26, slot := 1, constantValue := 0 }, { name := "EMPTY_ELEMENTDATA", type := (.array (.object "java/lang/Object")), accessFlags := 26, slot := 2, constantValue := 0 }, { name := "DEFAULTCAPACITY_EMPTY_ELEMENTDATA", type := (.array (.object "java/lang/Object")), accessFlags := 26, slot := 3, constantValue := 0 }, { name := "elementData", type := (.array (.object "java/lang/Object")), accessFlags := 128, slot := 1, constantValue := 0 }, { name := "size", type := .int, accessFlags := 2, slot := 2, constantValue := 0 }]
  methods := #[k11m0, k11m1, k11m2, k11m3, k11m4, k11m5, k11m6, k11m7]
  instanceTypes := #[.int, (.array (.object "java/lang/Object")), .int]
  staticTypes := #[.long, .int, (.array (.object "java/lang/Object")), (.array (.object "java/lang/Object"))]
  resolved := Array.replicate 509 none
  statics := some 0 }

def pool12 : Array CpInfo := pool [(2, .class_ 4), (0, .nameAndType 5 6), (0, u "java/lang/Object"), (0, u "<init>"), (0, u "()V"), (0, .class_ 8), (0, u "java/lang/StringBuilder"), (0, .methodref 7 3), (1, .class_ 13), (1, u "com/example/meerkat/meerkat/metrics/Exposition"), (0, u "text"), (0, u "Ljava/lang/StringBuilder;"), (2, .methodref 7 19), (0, .nameAndType 20 21), (0, u "append"), (0, u "(Ljava/lang/String;)Ljava/lang/StringBuilder;"), (0, .methodref 7 23), (0, .nameAndType 20 24), (0, u "(C)Ljava/lang/StringBuilder;"), (0, .methodref 11 26), (0, .nameAndType 27 28), (0, u "escape"), (0, u "(Ljava/lang/String;ZLjava/lang/StringBuilder;)V"), (3, .class_ 34), (1, u "java/lang/String"), (2, .methodref 7 38), (0, .nameAndType 39 40), (0, u "toString"), (0, u "()Ljava/lang/String;"), (0, .interfaceMethodref 42 43), (0, .class_ 44), (0, .nameAndType 45 46), (0, u "java/util/List"), (0, u "size"), (0, u "()I"), (0, .string 48), (0, u ""), (0, .string 50), (0, u ","), (0, .interfaceMethodref 42 52), (0, .nameAndType 53 54), (0, u "get"), (0, u "(I)Ljava/lang/Object;"), (0, .string 56), (0, u "=\""), (10, u "labels"), (0, u "(Ljava/util/List;Ljava/util/List;)Ljava/lang/String;"), (16, .methodref 32 86), (0, .nameAndType 87 46), (0, u "length"), (0, .methodref 32 89), (0, .nameAndType 90 91), (0, u "charAt"), (0, u "(I)C"), (0, .string 93), (0, u "\\\\"), (0, .string 95), (0, u "\\n"), (0, .string 97), (0, u "\\\"")] 31

def k12m0 : Method := { name := "<init>", desc := "()V", sig := { parameters := [], returnType := none }, accessFlags := 0, code := none }
def k12c1 : Code := { maxStack := 3, maxLocals := 4, code := prog_10_method_5_code, exceptionTable := #[], attributes := #[] }
def k12m1 : Method := { name := "labels", desc := "(Ljava/util/List;Ljava/util/List;)Ljava/lang/String;", sig := { parameters := [(.object "java/util/List"), (.object "java/util/List")], returnType := some (.object "java/lang/String") }, accessFlags := 8, code := some k12c1 }
def k12c2 : Code := { maxStack := 2, maxLocals := 5, code := prog_10_method_8_code, exceptionTable := #[], attributes := #[] }
def k12m2 : Method := { name := "escape", desc := "(Ljava/lang/String;ZLjava/lang/StringBuilder;)V", sig := { parameters := [(.object "java/lang/String"), .boolean, (.object "java/lang/StringBuilder")], returnType := none }, accessFlags := 10, code := some k12c2 }
/-- com/example/meerkat/meerkat/metrics/Exposition -/
def k12 : Class := { plain "com/example/meerkat/meerkat/metrics/Exposition" (some 0) with
  accessFlags := 48
  interfaces := #[]
  cf := some (fileOf pool12 11 #[] #[{ accessFlags := 0, nameIndex := 5, descriptorIndex := 6, attributes := #[] }, { accessFlags := 8, nameIndex := 67, descriptorIndex := 68, attributes := #[] }, { accessFlags := 10, nameIndex := 27, descriptorIndex := 28, attributes := #[] }] 48 2 #[] #[{ accessFlags := 18, nameIndex := 14, descriptorIndex := 15, attributes := #[] }])
  fields := #[{ name := "text", type := (.object "java/lang/StringBuilder"), accessFlags := 18, slot := 0, constantValue := 0 }]
  methods := #[k12m0, k12m1, k12m2]
  instanceTypes := #[(.object "java/lang/StringBuilder")]
  staticTypes := #[]
  resolved := Array.replicate 129 none
  statics := none }

def pool13 : Array CpInfo := pool [(1, .class_ 2), (0, u "java/lang/Appendable"), (0, .class_ 4), (0, u "java/lang/Object")] 9

/-- java/lang/Appendable -/
def k13 : Class := { plain "java/lang/Appendable" (some 0) with
  accessFlags := 1537
  interfaces := #[]
  cf := some (fileOf pool13 1 #[] #[] 1537 3 #[] #[])
  fields := #[]
  methods := #[]
  instanceTypes := #[]
  staticTypes := #[]
  resolved := Array.replicate 14 none
  statics := none }

def pool14 : Array CpInfo := pool [(2, .class_ 4), (1, u "java/lang/CharSequence"), (42, .class_ 48), (0, u "java/lang/CharSequence$1CodePointIterator"), (10, .class_ 60), (0, u "java/lang/CharSequence$1CharIterator"), (5, .class_ 67), (0, u "java/lang/Object")] 63

/-- java/lang/CharSequence -/
def k14 : Class := { plain "java/lang/CharSequence" (some 0) with
  accessFlags := 1537
  interfaces := #[]
  cf := some (fileOf pool14 2 #[.nestMembers #[47, 59]] #[] 1537 66 #[] #[])
  fields := #[]
  methods := #[]
  instanceTypes := #[]
  staticTypes := #[]
  resolved := Array.replicate 131 none
  statics := none }

def pool15 : Array CpInfo := pool [(1, .class_ 2), (0, u "java/lang/String"), (0, .methodref 4 5), (0, .class_ 6), (0, .nameAndType 7 8), (0, u "java/lang/Object"), (0, u "<init>"), (0, u "()V"), (1, .class_ 12), (1, u "java/lang/AbstractStringBuilder"), (0, u "EMPTYVALUE"), (0, u "[B"), (0, .fieldref 10 16), (0, .nameAndType 17 14), (0, u "value"), (0, .fieldref 1 19), (0, .nameAndType 20 21), (0, u "COMPACT_STRINGS"), (0, u "Z"), (0, .fieldref 10 23), (0, .nameAndType 24 25), (0, u "coder"), (0, u "B"), (6, .methodref 1 33), (0, .nameAndType 34 35), (0, u "length"), (0, u "()I"), (3, .integer 2147483647), (0, .methodref 1 41), (0, .nameAndType 24 42), (0, u "()B"), (2, u "append"), (0, u "(Ljava/lang/String;)Ljava/lang/AbstractStringBuilder;"), (1, .class_ 49), (0, u "java/lang/CharSequence"), (19, u "(Ljava/lang/String;)V"), (5, u "maybeLatin1"), (3, .fieldref 10 80), (0, .nameAndType 81 82), (0, u "count"), (0, u "I"), (0, .methodref 10 84), (0, .nameAndType 85 86), (0, u "isLatin1"), (0, u "()Z"), (1, .class_ 90), (1, u "java/lang/StringLatin1"), (9, .methodref 10 101), (0, .nameAndType 102 103), (0, u "ensureCapacityInternal"), (0, u "(I)V"), (0, .methodref 10 105), (0, .nameAndType 106 107), (0, u "newCapacity"), (0, u "(I)I"), (0, .methodref 109 110), (0, .class_ 111), (0, .nameAndType 112 113), (0, u "java/util/Arrays"), (0, u "copyOf"), (0, u "([BI)[B"), (0, .methodref 115 116), (0, .class_ 117), (0, .nameAndType 118 119), (0, u "jdk/internal/util/ArraysSupport"), (0, u "newLength"), (0, u "(III)I"), (71, .methodref 88 192), (0, .nameAndType 193 194), (0, u "canEncode"), (0, u "(C)Z"), (13, .methodref 10 209), (0, .nameAndType 210 211), (0, u "putStringAt"), (0, u "(ILjava/lang/String;)V"), (5, u "inflateIfNeededFor"), (2, .nameAndType 221 222), (0, u "getBytes"), (0, u "([BIB)V"), (69, u "(C)Ljava/lang/AbstractStringBuilder;"), (104, .methodref 10 398), (0, .nameAndType 217 69), (0, .methodref 1 220), (3, u "()[B"), (40, .class_ 445), (0, u "java/lang/Appendable"), (106, u "getValue")] 56

def k15m0 : Method := { name := "<init>", desc := "()V", sig := { parameters := [], returnType := none }, accessFlags := 0, code := none }
def k15c1 : Code := { maxStack := 2, maxLocals := 2, code := jdk_68_method_2_code, exceptionTable := #[], attributes := #[] }
def k15m1 : Method := { name := "<init>", desc := "(I)V", sig := { parameters := [.int], returnType := none }, accessFlags := 0, code := some k15c1 }
def k15c2 : Code := { maxStack := 1, maxLocals := 1, code := jdk_68_method_6_code, exceptionTable := #[], attributes := #[] }
def k15m2 : Method := { name := "length", desc := "()I", sig := { parameters := [], returnType := some .int }, accessFlags := 1, code := some k15c2 }
def k15c3 : Code := { maxStack := 4, maxLocals := 3, code := jdk_68_method_9_code, exceptionTable := #[], attributes := #[] }
def k15m3 : Method := { name := "ensureCapacityInternal", desc := "(I)V", sig := { parameters := [.int], returnType := none }, accessFlags := 2, code := some k15c3 }
def k15c4 : Code := { maxStack := 5, maxLocals := 6, code := jdk_68_method_10_code, exceptionTable := #[], attributes := #[] }
def k15m4 : Method := { name := "newCapacity", desc := "(I)I", sig := { parameters := [.int], returnType := some .int }, accessFlags := 2, code := some k15c4 }
def k15c5 : Code := { maxStack := 3, maxLocals := 3, code := jdk_68_method_22_code, exceptionTable := #[], attributes := #[] }
def k15m5 : Method := { name := "append", desc := "(Ljava/lang/String;)Ljava/lang/AbstractStringBuilder;", sig := { parameters := [(.object "java/lang/String")], returnType := some (.object "java/lang/AbstractStringBuilder") }, accessFlags := 1, code := some k15c5 }
def k15c6 : Code := { maxStack := 5, maxLocals := 2, code := jdk_68_method_31_code, exceptionTable := #[], attributes := #[] }
def k15m6 : Method := { name := "append", desc := "(C)Ljava/lang/AbstractStringBuilder;", sig := { parameters := [.char], returnType := some (.object "java/lang/AbstractStringBuilder") }, accessFlags := 1, code := some k15c6 }
def k15c7 : Code := { maxStack := 1, maxLocals := 1, code := jdk_68_method_64_code, exceptionTable := #[], attributes := #[] }
def k15m7 : Method := { name := "getValue", desc := "()[B", sig := { parameters := [], returnType := some (.array .byte) }, accessFlags := 16, code := some k15c7 }
def k15c8 : Code := { maxStack := 1, maxLocals := 1, code := jdk_68_method_68_code, exceptionTable := #[], attributes := #[] }
def k15m8 : Method := { name := "isLatin1", desc := "()Z", sig := { parameters := [], returnType := some .boolean }, accessFlags := 16, code := some k15c8 }
def k15c9 : Code := { maxStack := 2, maxLocals := 2, code := jdk_68_method_71_code, exceptionTable := #[], attributes := #[] }
def k15m9 : Method := { name := "inflateIfNeededFor", desc := "(Ljava/lang/String;)V", sig := { parameters := [(.object "java/lang/String")], returnType := none }, accessFlags := 2, code := some k15c9 }
def k15c10 : Code := { maxStack := 4, maxLocals := 3, code := jdk_68_method_73_code, exceptionTable := #[], attributes := #[] }
def k15m10 : Method := { name := "putStringAt", desc := "(ILjava/lang/String;)V", sig := { parameters := [.int, (.object "java/lang/String")], returnType := none }, accessFlags := 2, code := some k15c10 }
/-- java/lang/AbstractStringBuilder -/
def k15 : Class := { plain "java/lang/AbstractStringBuilder" (some 0) with
  accessFlags := 1056
  interfaces := #[13, 14]
  cf := some (fileOf pool15 10 #[] #[{ accessFlags := 0, nameIndex := 7, descriptorIndex := 8, attributes := #[] }, { accessFlags := 0, nameIndex := 7, descriptorIndex := 103, attributes := #[] }, { accessFlags := 1, nameIndex := 34, descriptorIndex := 35, attributes := #[] }, { accessFlags := 2, nameIndex := 102, descriptorIndex := 103, attributes := #[] }, { accessFlags := 2, nameIndex := 106, descriptorIndex := 107, attributes := #[] }, { accessFlags := 1, nameIndex := 45, descriptorIndex := 46, attributes := #[] }, { accessFlags := 1, nameIndex := 45, descriptorIndex := 292, attributes := #[] }, { accessFlags := 16, nameIndex := 552, descriptorIndex := 403, attributes := #[] }, { accessFlags := 16, nameIndex := 85, descriptorIndex := 86, attributes := #[] }, { accessFlags := 2, nameIndex := 217, descriptorIndex := 69, attributes := #[] }, { accessFlags := 2, nameIndex := 210, descriptorIndex := 211, attributes := #[] }] 1056 4 #[444, 48] #[{ accessFlags := 0, nameIndex := 17, descriptorIndex := 14, attributes := #[] }, { accessFlags := 0, nameIndex := 24, descriptorIndex := 25, attributes := #[] }, { accessFlags := 0, nameIndex := 75, descriptorIndex := 21, attributes := #[] }, { accessFlags := 0, nameIndex := 81, descriptorIndex := 82, attributes := #[] }, { accessFlags := 26, nameIndex := 13, descriptorIndex := 14, attributes := #[] }])
  fields := #[{ name := "value", type := (.array .byte), accessFlags := 0, slot := 0, constantValue := 0 }, { name := "coder", type := .byte, accessFlags := 0, slot := 1, constantValue := 0 }, { name := "maybeLatin1", type := .boolean, accessFlags := 0, slot := 2, constantValue := 0 }, { name := "count", type := .int, accessFlags := 0, slot := 3, constantValue := 0 }, { name := "EMPTYVALUE", type := (.array .byte), accessFlags := 26, slot := 0, constantValue := 0 }]
  methods := #[k15m0, k15m1, k15m2, k15m3, k15m4, k15m5, k15m6, k15m7, k15m8, k15m9, k15m10]
  instanceTypes := #[(.array .byte), .byte, .boolean, .int]
  staticTypes := #[(.array .byte)]
  resolved := Array.replicate 609 none
  statics := none }

def pool16 : Array CpInfo := pool [(1, .class_ 2), (0, u "java/lang/Comparable"), (0, .class_ 4), (0, u "java/lang/Object")] 7

/-- java/lang/Comparable -/
def k16 : Class := { plain "java/lang/Comparable" (some 0) with
  accessFlags := 1537
  interfaces := #[]
  cf := some (fileOf pool16 1 #[] #[] 1537 3 #[] #[])
  fields := #[]
  methods := #[]
  instanceTypes := #[]
  staticTypes := #[]
  resolved := Array.replicate 12 none
  statics := none }

def pool17 : Array CpInfo := pool [(1, .methodref 2 3), (0, .class_ 4), (0, .nameAndType 5 6), (0, u "java/lang/AbstractStringBuilder"), (0, u "<init>"), (0, u "(I)V"), (11, .class_ 20), (1, u "java/lang/String"), (3, .class_ 26), (1, u "java/lang/StringBuilder"), (0, u "append"), (0, u "(Ljava/lang/String;)Ljava/lang/StringBuilder;"), (0, .methodref 2 30), (0, .nameAndType 27 31), (0, u "(Ljava/lang/String;)Ljava/lang/AbstractStringBuilder;"), (18, .methodref 2 51), (0, .nameAndType 27 52), (0, u "(C)Ljava/lang/AbstractStringBuilder;"), (84, .methodref 18 138), (0, .nameAndType 5 139), (0, u "(Ljava/lang/StringBuilder;)V"), (5, u "()V"), (10, u "()I"), (129, u "(C)Ljava/lang/StringBuilder;"), (56, .methodref 2 344), (0, .nameAndType 345 156), (0, u "length"), (3, .class_ 350), (0, u "java/lang/Appendable"), (0, .class_ 352), (0, u "java/io/Serializable"), (0, .class_ 354), (0, u "java/lang/Comparable"), (0, .class_ 356), (0, u "java/lang/CharSequence"), (0, u "serialVersionUID"), (0, u "J"), (40, u "toString"), (0, u "()Ljava/lang/String;")] 21

def k17c0 : Code := { maxStack := 2, maxLocals := 1, code := jdk_67_method_1_code, exceptionTable := #[], attributes := #[] }
def k17m0 : Method := { name := "<init>", desc := "()V", sig := { parameters := [], returnType := none }, accessFlags := 1, code := some k17c0 }
def k17c1 : Code := { maxStack := 2, maxLocals := 2, code := jdk_67_method_7_code, exceptionTable := #[], attributes := #[] }
def k17m1 : Method := { name := "append", desc := "(Ljava/lang/String;)Ljava/lang/StringBuilder;", sig := { parameters := [(.object "java/lang/String")], returnType := some (.object "java/lang/StringBuilder") }, accessFlags := 1, code := some k17c1 }
def k17c2 : Code := { maxStack := 2, maxLocals := 2, code := jdk_67_method_14_code, exceptionTable := #[], attributes := #[] }
def k17m2 : Method := { name := "append", desc := "(C)Ljava/lang/StringBuilder;", sig := { parameters := [.char], returnType := some (.object "java/lang/StringBuilder") }, accessFlags := 1, code := some k17c2 }
def k17c3 : Code := { maxStack := 3, maxLocals := 1, code := jdk_67_method_42_code, exceptionTable := #[], attributes := #[] }
def k17m3 : Method := { name := "toString", desc := "()Ljava/lang/String;", sig := { parameters := [], returnType := some (.object "java/lang/String") }, accessFlags := 1, code := some k17c3 }
def k17c4 : Code := { maxStack := 1, maxLocals := 1, code := jdk_67_method_93_code, exceptionTable := #[], attributes := #[] }
def k17m4 : Method := { name := "length", desc := "()I", sig := { parameters := [], returnType := some .int }, accessFlags := 4161, code := some k17c4 }
/-- java/lang/StringBuilder -/
def k17 : Class := { plain "java/lang/StringBuilder" (some 15) with
  accessFlags := 49
  interfaces := #[13, 10, 16, 14]
  cf := some (fileOf pool17 24 #[] #[{ accessFlags := 1, nameIndex := 5, descriptorIndex := 145, attributes := #[] }, { accessFlags := 1, nameIndex := 27, descriptorIndex := 28, attributes := #[] }, { accessFlags := 1, nameIndex := 27, descriptorIndex := 286, attributes := #[] }, { accessFlags := 1, nameIndex := 399, descriptorIndex := 400, attributes := #[] }, { accessFlags := 4161, nameIndex := 345, descriptorIndex := 156, attributes := #[] }] 49 2 #[349, 351, 353, 355] #[{ accessFlags := 24, nameIndex := 357, descriptorIndex := 358, attributes := #[] }])
  fields := #[{ name := "serialVersionUID", type := .long, accessFlags := 24, slot := 0, constantValue := 0 }]
  methods := #[k17m0, k17m1, k17m2, k17m3, k17m4]
  instanceTypes := #[(.array .byte), .byte, .boolean, .int]
  staticTypes := #[.long]
  resolved := Array.replicate 422 none
  statics := none }

def pool18 : Array CpInfo := pool [(1, .class_ 2), (0, u "java/lang/constant/Constable"), (0, .class_ 4), (0, u "java/lang/Object")] 6

/-- java/lang/constant/Constable -/
def k18 : Class := { plain "java/lang/constant/Constable" (some 0) with
  accessFlags := 1537
  interfaces := #[]
  cf := some (fileOf pool18 1 #[] #[] 1537 3 #[] #[])
  fields := #[]
  methods := #[]
  instanceTypes := #[]
  staticTypes := #[]
  resolved := Array.replicate 11 none
  statics := none }

def pool19 : Array CpInfo := pool [(1, .class_ 2), (0, u "java/lang/constant/ConstantDesc"), (0, .class_ 4), (0, u "java/lang/Object")] 32

/-- java/lang/constant/ConstantDesc -/
def k19 : Class := { plain "java/lang/constant/ConstantDesc" (some 0) with
  accessFlags := 1537
  interfaces := #[]
  cf := some (fileOf pool19 1 #[] #[] 1537 3 #[] #[])
  fields := #[]
  methods := #[]
  instanceTypes := #[]
  staticTypes := #[]
  resolved := Array.replicate 37 none
  statics := none }

def pool20 : Array CpInfo := pool [(1, .methodref 2 3), (0, .class_ 4), (0, .nameAndType 5 6), (0, u "java/lang/Object"), (0, u "<init>"), (0, u "()V"), (2, .fieldref 10 11), (0, .class_ 12), (0, .nameAndType 13 14), (0, u "java/lang/String"), (0, u "value"), (0, u "[B"), (0, .fieldref 10 16), (0, .nameAndType 17 18), (0, u "coder"), (0, u "B"), (2, u "hash"), (0, u "I"), (2, u "hashIsZero"), (0, u "Z"), (0, .methodref 10 28), (0, .nameAndType 5 29), (0, u "([CIILjava/lang/Void;)V"), (8, .fieldref 10 39), (0, .nameAndType 40 26), (0, u "COMPACT_STRINGS"), (1, .class_ 44), (1, u "java/lang/StringUTF16"), (0, u "compress"), (1, .methodref 42 48), (0, .nameAndType 49 50), (0, u "coderFromArrayLen"), (0, u "([BI)B"), (2, u "toBytes"), (0, .methodref 55 56), (0, .class_ 57), (0, .nameAndType 58 59), (0, u "java/util/Arrays"), (0, u "copyOfRange"), (0, u "([BII)[B"), (47, .class_ 109), (1, u "java/lang/StringLatin1"), (32, u "()Z"), (34, .methodref 42 178), (0, .nameAndType 45 179), (0, u "([CII)[B"), (13, .class_ 195), (1, u "java/lang/System"), (13, .methodref 10 210), (0, .nameAndType 5 211), (0, u "([BB)V"), (0, .methodref 193 213), (0, .nameAndType 214 215), (0, u "arraycopy"), (0, u "(Ljava/lang/Object;ILjava/lang/Object;II)V"), (118, u "()I"), (0, .methodref 10 336), (0, .nameAndType 17 337), (0, u "()B"), (2, u "()[B"), (22, u "([BI)C"), (5, u "(C)Z"), (21, u "(II)V"), (35, u "(I)C"), (61, .methodref 10 490), (0, .nameAndType 5 491), (0, u "(Ljava/lang/AbstractStringBuilder;Ljava/lang/Void;)V"), (0, .methodref 10 493), (0, .nameAndType 494 142), (0, u "isLatin1"), (0, .methodref 107 496), (0, .nameAndType 497 363), (0, u "charAt"), (3, u "checkIndex"), (4, .nameAndType 507 334), (0, u "length"), (24, u "getBytes"), (16, .methodref 550 506), (0, .class_ 551), (0, u "java/lang/AbstractStringBuilder"), (0, .methodref 550 553), (0, .nameAndType 554 340), (0, u "getValue"), (20, .class_ 576), (0, u "java/lang/CharSequence"), (22, u "CASE_INSENSITIVE_ORDER"), (0, u "Ljava/util/Comparator;"), (181, u "valueOf"), (0, u "(C)Ljava/lang/String;"), (37, u "([BIB)V"), (188, u "([C)V"), (4, .methodref 107 1016), (0, .nameAndType 1017 369), (0, u "canEncode"), (0, .methodref 107 1019), (0, .nameAndType 53 1020), (0, u "(C)[B"), (26, .methodref 550 493), (5, .fieldref 1054 1055), (0, .class_ 1056), (0, .nameAndType 1057 1058), (0, u "jdk/internal/util/Preconditions"), (0, u "SIOOBE_FORMATTER"), (0, u "Ljava/util/function/BiFunction;"), (0, .methodref 1054 1060), (0, .nameAndType 501 1061), (0, u "(IILjava/util/function/BiFunction;)I"), (39, u "serialPersistentFields"), (0, u "[Ljava/io/ObjectStreamField;"), (0, .class_ 1104), (0, u "java/lang/String$CaseInsensitiveComparator"), (1, .class_ 1107), (0, u "java/io/Serializable"), (0, .class_ 1109), (0, u "java/lang/Comparable"), (0, .class_ 1111), (0, u "java/lang/constant/Constable"), (0, .class_ 1113), (0, u "java/lang/constant/ConstantDesc"), (2, u "serialVersionUID"), (0, u "J"), (3, u "REPL"), (0, u "C"), (2, u "LATIN1"), (1, u "UTF16"), (105, u "(Ljava/lang/StringBuilder;)V")] 217

def k20m0 : Method := { name := "<init>", desc := "()V", sig := { parameters := [], returnType := none }, accessFlags := 1, code := none }
def k20c1 : Code := { maxStack := 5, maxLocals := 2, code := jdk_42_method_3_code, exceptionTable := #[], attributes := #[] }
def k20m1 : Method := { name := "<init>", desc := "([C)V", sig := { parameters := [(.array .char)], returnType := none }, accessFlags := 1, code := some k20c1 }
def k20c2 : Code := { maxStack := 3, maxLocals := 2, code := jdk_42_method_53_code, exceptionTable := #[], attributes := #[] }
def k20m2 : Method := { name := "<init>", desc := "(Ljava/lang/StringBuilder;)V", sig := { parameters := [(.object "java/lang/StringBuilder")], returnType := none }, accessFlags := 1, code := some k20c2 }
def k20c3 : Code := { maxStack := 2, maxLocals := 1, code := jdk_42_method_54_code, exceptionTable := #[], attributes := #[] }
def k20m3 : Method := { name := "length", desc := "()I", sig := { parameters := [], returnType := some .int }, accessFlags := 1, code := some k20c3 }
def k20c4 : Code := { maxStack := 2, maxLocals := 2, code := jdk_42_method_56_code, exceptionTable := #[], attributes := #[] }
def k20m4 : Method := { name := "charAt", desc := "(I)C", sig := { parameters := [.int], returnType := some .char }, accessFlags := 1, code := some k20c4 }
def k20c5 : Code := { maxStack := 4, maxLocals := 1, code := jdk_42_method_139_code, exceptionTable := #[], attributes := #[] }
def k20m5 : Method := { name := "valueOf", desc := "(C)Ljava/lang/String;", sig := { parameters := [.char], returnType := some (.object "java/lang/String") }, accessFlags := 9, code := some k20c5 }
def k20c6 : Code := { maxStack := 5, maxLocals := 4, code := jdk_42_method_147_code, exceptionTable := #[], attributes := #[] }
def k20m6 : Method := { name := "getBytes", desc := "([BIB)V", sig := { parameters := [(.array .byte), .int, .byte], returnType := none }, accessFlags := 0, code := some k20c6 }
def k20c7 : Code := { maxStack := 4, maxLocals := 6, code := jdk_42_method_149_code, exceptionTable := #[], attributes := #[] }
def k20m7 : Method := { name := "<init>", desc := "([CIILjava/lang/Void;)V", sig := { parameters := [(.array .char), .int, .int, (.object "java/lang/Void")], returnType := none }, accessFlags := 2, code := some k20c7 }
def k20c8 : Code := { maxStack := 5, maxLocals := 5, code := jdk_42_method_150_code, exceptionTable := #[], attributes := #[] }
def k20m8 : Method := { name := "<init>", desc := "(Ljava/lang/AbstractStringBuilder;Ljava/lang/Void;)V", sig := { parameters := [(.object "java/lang/AbstractStringBuilder"), (.object "java/lang/Void")], returnType := none }, accessFlags := 0, code := some k20c8 }
def k20c9 : Code := { maxStack := 2, maxLocals := 3, code := jdk_42_method_151_code, exceptionTable := #[], attributes := #[] }
def k20m9 : Method := { name := "<init>", desc := "([BB)V", sig := { parameters := [(.array .byte), .byte], returnType := none }, accessFlags := 0, code := some k20c9 }
def k20c10 : Code := { maxStack := 1, maxLocals := 1, code := jdk_42_method_152_code, exceptionTable := #[], attributes := #[] }
def k20m10 : Method := { name := "coder", desc := "()B", sig := { parameters := [], returnType := some .byte }, accessFlags := 0, code := some k20c10 }
def k20c11 : Code := { maxStack := 1, maxLocals := 1, code := jdk_42_method_154_code, exceptionTable := #[], attributes := #[] }
def k20m11 : Method := { name := "isLatin1", desc := "()Z", sig := { parameters := [], returnType := some .boolean }, accessFlags := 0, code := some k20c11 }
def k20c12 : Code := { maxStack := 3, maxLocals := 2, code := jdk_42_method_155_code, exceptionTable := #[], attributes := #[] }
def k20m12 : Method := { name := "checkIndex", desc := "(II)V", sig := { parameters := [.int, .int], returnType := none }, accessFlags := 8, code := some k20c12 }
/-- java/lang/String -/
def k20 : Class := { plain "java/lang/String" (some 0) with
  accessFlags := 49
  interfaces := #[10, 16, 14, 18, 19]
  cf := some (fileOf pool20 10 #[.nestMembers #[1103]] #[{ accessFlags := 1, nameIndex := 5, descriptorIndex := 6, attributes := #[] }, { accessFlags := 1, nameIndex := 5, descriptorIndex := 1010, attributes := #[] }, { accessFlags := 1, nameIndex := 5, descriptorIndex := 1233, attributes := #[] }, { accessFlags := 1, nameIndex := 507, descriptorIndex := 334, attributes := #[] }, { accessFlags := 1, nameIndex := 497, descriptorIndex := 427, attributes := #[] }, { accessFlags := 9, nameIndex := 782, descriptorIndex := 783, attributes := #[] }, { accessFlags := 0, nameIndex := 532, descriptorIndex := 821, attributes := #[] }, { accessFlags := 2, nameIndex := 5, descriptorIndex := 29, attributes := #[] }, { accessFlags := 0, nameIndex := 5, descriptorIndex := 491, attributes := #[] }, { accessFlags := 0, nameIndex := 5, descriptorIndex := 211, attributes := #[] }, { accessFlags := 0, nameIndex := 17, descriptorIndex := 337, attributes := #[] }, { accessFlags := 0, nameIndex := 494, descriptorIndex := 142, attributes := #[] }, { accessFlags := 8, nameIndex := 501, descriptorIndex := 391, attributes := #[] }] 49 2 #[1106, 1108, 575, 1110, 1112] #[{ accessFlags := 18, nameIndex := 13, descriptorIndex := 14, attributes := #[] }, { accessFlags := 18, nameIndex := 17, descriptorIndex := 18, attributes := #[] }, { accessFlags := 2, nameIndex := 21, descriptorIndex := 22, attributes := #[] }, { accessFlags := 2, nameIndex := 25, descriptorIndex := 26, attributes := #[] }, { accessFlags := 26, nameIndex := 1116, descriptorIndex := 1117, attributes := #[] }, { accessFlags := 24, nameIndex := 40, descriptorIndex := 26, attributes := #[] }, { accessFlags := 26, nameIndex := 1101, descriptorIndex := 1102, attributes := #[] }, { accessFlags := 26, nameIndex := 1121, descriptorIndex := 1122, attributes := #[] }, { accessFlags := 25, nameIndex := 599, descriptorIndex := 600, attributes := #[] }, { accessFlags := 24, nameIndex := 1125, descriptorIndex := 18, attributes := #[] }, { accessFlags := 24, nameIndex := 1127, descriptorIndex := 18, attributes := #[] }])
  fields := #[{ name := "value", type := (.array .byte), accessFlags := 18, slot := 0, constantValue := 0 }, { name := "coder", type := .byte, accessFlags := 18, slot := 1, constantValue := 0 }, { name := "hash", type := .int, accessFlags := 2, slot := 2, constantValue := 0 }, { name := "hashIsZero", type := .boolean, accessFlags := 2, slot := 3, constantValue := 0 }, { name := "serialVersionUID", type := .long, accessFlags := 26, slot := 0, constantValue := 0 }, { name := "COMPACT_STRINGS", type := .boolean, accessFlags := 24, slot := 1, constantValue := 0 }, { name := "serialPersistentFields", type := (.array (.object "java/io/ObjectStreamField")), accessFlags := 26, slot := 2, constantValue := 0 }, { name := "REPL", type := .char, accessFlags := 26, slot := 3, constantValue := 0 }, { name := "CASE_INSENSITIVE_ORDER", type := (.object "java/util/Comparator"), accessFlags := 25, slot := 4, constantValue := 0 }, { name := "LATIN1", type := .byte, accessFlags := 24, slot := 5, constantValue := 0 }, { name := "UTF16", type := .byte, accessFlags := 24, slot := 6, constantValue := 0 }]
  methods := #[k20m0, k20m1, k20m2, k20m3, k20m4, k20m5, k20m6, k20m7, k20m8, k20m9, k20m10, k20m11, k20m12]
  instanceTypes := #[(.array .byte), .byte, .int, .boolean]
  staticTypes := #[.long, .boolean, (.array (.object "java/io/ObjectStreamField")), .char, (.object "java/util/Comparator"), .byte, .byte]
  resolved := Array.replicate 1451 none
  statics := some 1 }

def pool21 : Array CpInfo := pool [(2, .class_ 4), (1, u "java/lang/Object"), (0, u "<init>"), (0, u "()V"), (7, .class_ 16), (1, u "java/util/Arrays"), (57, .class_ 76), (1, u "java/util/Arrays$NaturalOrder"), (32, u "()Ljava/lang/Object;"), (3, .class_ 115), (1, u "java/util/Arrays$LegacyMergeSort"), (1, u "Z"), (10, .nameAndType 129 109), (0, u "clone"), (9, u "copyOfRange"), (10, .methodref 151 152), (0, .class_ 153), (0, .nameAndType 154 155), (0, u "java/lang/System"), (0, u "arraycopy"), (0, u "(Ljava/lang/Object;ILjava/lang/Object;II)V"), (146, u "copyOf"), (1, .methodref 305 306), (0, .class_ 307), (0, .nameAndType 308 309), (0, u "java/lang/Math"), (0, u "min"), (0, u "(II)I"), (0, .methodref 311 128), (0, .class_ 312), (0, u "[B"), (26, .methodref 14 340), (0, .nameAndType 341 342), (0, u "copyOfRangeByte"), (0, u "([BII)[B"), (0, .methodref 14 344), (0, .nameAndType 345 346), (0, u "checkLength"), (0, u "(II)V"), (28, .class_ 376), (0, u "java/util/Arrays$ArrayList"), (68, u "$assertionsDisabled"), (269, u "MIN_ARRAY_SORT_GRAN"), (0, u "I"), (2, u "INSERTIONSORT_THRESHOLD"), (149, u "([BI)[B"), (105, .class_ 976), (0, u "java/util/Arrays$ArrayItr")] 52

def k21m0 : Method := { name := "<init>", desc := "()V", sig := { parameters := [], returnType := none }, accessFlags := 2, code := none }
def k21c1 : Code := { maxStack := 6, maxLocals := 3, code := jdk_65_method_121_code, exceptionTable := #[], attributes := #[] }
def k21m1 : Method := { name := "copyOf", desc := "([BI)[B", sig := { parameters := [(.array .byte), .int], returnType := some (.array .byte) }, accessFlags := 9, code := some k21c1 }
def k21c2 : Code := { maxStack := 4, maxLocals := 2, code := jdk_65_method_131_code, exceptionTable := #[], attributes := #[] }
def k21m2 : Method := { name := "checkLength", desc := "(II)V", sig := { parameters := [.int, .int], returnType := none }, accessFlags := 10, code := some k21c2 }
def k21c3 : Code := { maxStack := 3, maxLocals := 3, code := jdk_65_method_132_code, exceptionTable := #[], attributes := #[] }
def k21m3 : Method := { name := "copyOfRange", desc := "([BII)[B", sig := { parameters := [(.array .byte), .int, .int], returnType := some (.array .byte) }, accessFlags := 9, code := some k21c3 }
def k21c4 : Code := { maxStack := 6, maxLocals := 5, code := jdk_65_method_133_code, exceptionTable := #[], attributes := #[] }
def k21m4 : Method := { name := "copyOfRangeByte", desc := "([BII)[B", sig := { parameters := [(.array .byte), .int, .int], returnType := some (.array .byte) }, accessFlags := 10, code := some k21c4 }
/-- java/util/Arrays -/
def k21 : Class := { plain "java/util/Arrays" (some 0) with
  accessFlags := 49
  interfaces := #[]
  cf := some (fileOf pool21 14 #[.nestMembers #[975, 375, 113, 74]] #[{ accessFlags := 2, nameIndex := 5, descriptorIndex := 6, attributes := #[] }, { accessFlags := 9, nameIndex := 302, descriptorIndex := 869, attributes := #[] }, { accessFlags := 10, nameIndex := 345, descriptorIndex := 346, attributes := #[] }, { accessFlags := 9, nameIndex := 139, descriptorIndex := 342, attributes := #[] }, { accessFlags := 10, nameIndex := 341, descriptorIndex := 342, attributes := #[] }] 49 2 #[] #[{ accessFlags := 26, nameIndex := 715, descriptorIndex := 716, attributes := #[] }, { accessFlags := 26, nameIndex := 719, descriptorIndex := 716, attributes := #[] }, { accessFlags := 4120, nameIndex := 445, descriptorIndex := 117, attributes := #[] }])
  fields := #[{ name := "MIN_ARRAY_SORT_GRAN", type := .int, accessFlags := 26, slot := 0, constantValue := 0 }, { name := "INSERTIONSORT_THRESHOLD", type := .int, accessFlags := 26, slot := 1, constantValue := 0 }, { name := "$assertionsDisabled", type := .boolean, accessFlags := 4120, slot := 2, constantValue := 0 }]
  methods := #[k21m0, k21m1, k21m2, k21m3, k21m4]
  instanceTypes := #[]
  staticTypes := #[.int, .int, .boolean]
  resolved := Array.replicate 1029 none
  statics := none }

def pool22 : Array CpInfo := pool [(1, .class_ 2), (0, u "java/lang/Math"), (1, .class_ 6), (1, u "java/lang/Object"), (0, u "<init>"), (0, u "()V"), (89, .class_ 100), (1, u "java/lang/Math$RandomNumberGeneratorHolder"), (71, u "negativeZeroFloatBits"), (0, u "J"), (2, u "negativeZeroDoubleBits"), (21, u "max"), (2, u "min"), (43, u "$assertionsDisabled"), (0, u "Z"), (88, u "(II)I"), (2, u "twoToTheDoubleScaleDown"), (0, u "D"), (4, u "twoToTheDoubleScaleUp"), (9, u "E"), (3, u "PI"), (2, u "TAU"), (2, u "DEGREES_TO_RADIANS"), (0, u "RADIANS_TO_DEGREES")] 94

def k22m0 : Method := { name := "<init>", desc := "()V", sig := { parameters := [], returnType := none }, accessFlags := 2, code := none }
def k22c1 : Code := { maxStack := 2, maxLocals := 2, code := jdk_29_method_65_code, exceptionTable := #[], attributes := #[] }
def k22m1 : Method := { name := "max", desc := "(II)I", sig := { parameters := [.int, .int], returnType := some .int }, accessFlags := 9, code := some k22c1 }
def k22c2 : Code := { maxStack := 2, maxLocals := 2, code := jdk_29_method_69_code, exceptionTable := #[], attributes := #[] }
def k22m2 : Method := { name := "min", desc := "(II)I", sig := { parameters := [.int, .int], returnType := some .int }, accessFlags := 9, code := some k22c2 }
/-- java/lang/Math -/
def k22 : Class := { plain "java/lang/Math" (some 0) with
  accessFlags := 49
  interfaces := #[]
  cf := some (fileOf pool22 1 #[.nestMembers #[98]] #[{ accessFlags := 2, nameIndex := 7, descriptorIndex := 8, attributes := #[] }, { accessFlags := 9, nameIndex := 198, descriptorIndex := 335, attributes := #[] }, { accessFlags := 9, nameIndex := 201, descriptorIndex := 335, attributes := #[] }] 49 4 #[] #[{ accessFlags := 25, nameIndex := 354, descriptorIndex := 339, attributes := #[] }, { accessFlags := 25, nameIndex := 358, descriptorIndex := 339, attributes := #[] }, { accessFlags := 25, nameIndex := 361, descriptorIndex := 339, attributes := #[] }, { accessFlags := 26, nameIndex := 364, descriptorIndex := 339, attributes := #[] }, { accessFlags := 26, nameIndex := 365, descriptorIndex := 339, attributes := #[] }, { accessFlags := 26, nameIndex := 172, descriptorIndex := 173, attributes := #[] }, { accessFlags := 26, nameIndex := 176, descriptorIndex := 173, attributes := #[] }, { accessFlags := 8, nameIndex := 344, descriptorIndex := 339, attributes := #[] }, { accessFlags := 8, nameIndex := 338, descriptorIndex := 339, attributes := #[] }, { accessFlags := 4120, nameIndex := 245, descriptorIndex := 246, attributes := #[] }])
  fields := #[{ name := "E", type := .double, accessFlags := 25, slot := 0, constantValue := 0 }, { name := "PI", type := .double, accessFlags := 25, slot := 1, constantValue := 0 }, { name := "TAU", type := .double, accessFlags := 25, slot := 2, constantValue := 0 }, { name := "DEGREES_TO_RADIANS", type := .double, accessFlags := 26, slot := 3, constantValue := 0 }, { name := "RADIANS_TO_DEGREES", type := .double, accessFlags := 26, slot := 4, constantValue := 0 }, { name := "negativeZeroFloatBits", type := .long, accessFlags := 26, slot := 5, constantValue := 0 }, { name := "negativeZeroDoubleBits", type := .long, accessFlags := 26, slot := 6, constantValue := 0 }, { name := "twoToTheDoubleScaleUp", type := .double, accessFlags := 8, slot := 7, constantValue := 0 }, { name := "twoToTheDoubleScaleDown", type := .double, accessFlags := 8, slot := 8, constantValue := 0 }, { name := "$assertionsDisabled", type := .boolean, accessFlags := 4120, slot := 9, constantValue := 0 }]
  methods := #[k22m0, k22m1, k22m2]
  instanceTypes := #[]
  staticTypes := #[.double, .double, .double, .double, .double, .long, .long, .double, .double, .boolean]
  resolved := Array.replicate 460 none
  statics := none }

def pool23 : Array CpInfo := pool [(2, .class_ 4), (1, u "java/lang/Object"), (0, u "<init>"), (0, u "()V"), (1, .class_ 10), (1, u "java/lang/System"), (0, u "allowSecurityManager"), (0, u "I"), (16, u "cons"), (0, u "Ljava/io/Console;"), (77, .class_ 110), (1, u "java/lang/System$CallersHolder"), (43, u "initialErrStream"), (0, u "Ljava/io/PrintStream;"), (19, u "security"), (0, u "Ljava/lang/SecurityManager;"), (31, .class_ 209), (0, u "java/lang/System$1"), (7, u "props"), (0, u "Ljava/util/Properties;"), (2, u "lineSeparator"), (0, u "Ljava/lang/String;"), (96, .class_ 321), (1, u "java/lang/System$LoggerFinder"), (5, .class_ 328), (0, u "java/lang/System$Logger"), (67, u "err"), (2, u "out"), (91, u "notSupportedJnuEncoding"), (15, u "in"), (17, u "initialIn"), (0, u "Ljava/io/InputStream;"), (35, u "bootLayer"), (0, u "Ljava/lang/ModuleLayer;"), (99, .class_ 664), (0, u "java/lang/System$2"), (9, u "NEVER"), (2, u "MAYBE"), (49, u "arraycopy"), (0, u "(Ljava/lang/Object;ILjava/lang/Object;II)V"), (72, .class_ 802), (0, u "java/lang/System$Logger$Level")] 31

def k23m0 : Method := { name := "<init>", desc := "()V", sig := { parameters := [], returnType := none }, accessFlags := 2, code := none }
def k23m1 : Method := { name := "arraycopy", desc := "(Ljava/lang/Object;ILjava/lang/Object;II)V", sig := { parameters := [(.object "java/lang/Object"), .int, (.object "java/lang/Object"), .int, .int], returnType := none }, accessFlags := 265, code := none }
/-- java/lang/System -/
def k23 : Class := { plain "java/lang/System" (some 0) with
  accessFlags := 49
  interfaces := #[]
  cf := some (fileOf pool23 8 #[.nestMembers #[319, 327, 801, 108, 663, 208]] #[{ accessFlags := 2, nameIndex := 5, descriptorIndex := 6, attributes := #[] }, { accessFlags := 265, nameIndex := 727, descriptorIndex := 728, attributes := #[] }] 49 2 #[] #[{ accessFlags := 25, nameIndex := 507, descriptorIndex := 526, attributes := #[] }, { accessFlags := 25, nameIndex := 399, descriptorIndex := 155, attributes := #[] }, { accessFlags := 25, nameIndex := 396, descriptorIndex := 155, attributes := #[] }, { accessFlags := 10, nameIndex := 525, descriptorIndex := 526, attributes := #[] }, { accessFlags := 26, nameIndex := 674, descriptorIndex := 12, attributes := #[] }, { accessFlags := 26, nameIndex := 677, descriptorIndex := 12, attributes := #[] }, { accessFlags := 10, nameIndex := 11, descriptorIndex := 12, attributes := #[] }, { accessFlags := 74, nameIndex := 175, descriptorIndex := 176, attributes := #[] }, { accessFlags := 10, nameIndex := 491, descriptorIndex := 222, attributes := #[] }, { accessFlags := 74, nameIndex := 29, descriptorIndex := 30, attributes := #[] }, { accessFlags := 74, nameIndex := 154, descriptorIndex := 155, attributes := #[] }, { accessFlags := 10, nameIndex := 217, descriptorIndex := 218, attributes := #[] }, { accessFlags := 10, nameIndex := 221, descriptorIndex := 222, attributes := #[] }, { accessFlags := 8, nameIndex := 562, descriptorIndex := 563, attributes := #[] }])
  fields := #[{ name := "in", type := (.object "java/io/InputStream"), accessFlags := 25, slot := 0, constantValue := 0 }, { name := "out", type := (.object "java/io/PrintStream"), accessFlags := 25, slot := 1, constantValue := 0 }, { name := "err", type := (.object "java/io/PrintStream"), accessFlags := 25, slot := 2, constantValue := 0 }, { name := "initialIn", type := (.object "java/io/InputStream"), accessFlags := 10, slot := 3, constantValue := 0 }, { name := "NEVER", type := .int, accessFlags := 26, slot := 4, constantValue := 0 }, { name := "MAYBE", type := .int, accessFlags := 26, slot := 5, constantValue := 0 }, { name := "allowSecurityManager", type := .int, accessFlags := 10, slot := 6, constantValue := 0 }, { name := "security", type := (.object "java/lang/SecurityManager"), accessFlags := 74, slot := 7, constantValue := 0 }, { name := "notSupportedJnuEncoding", type := (.object "java/lang/String"), accessFlags := 10, slot := 8, constantValue := 0 }, { name := "cons", type := (.object "java/io/Console"), accessFlags := 74, slot := 9, constantValue := 0 }, { name := "initialErrStream", type := (.object "java/io/PrintStream"), accessFlags := 74, slot := 10, constantValue := 0 }, { name := "props", type := (.object "java/util/Properties"), accessFlags := 10, slot := 11, constantValue := 0 }, { name := "lineSeparator", type := (.object "java/lang/String"), accessFlags := 10, slot := 12, constantValue := 0 }, { name := "bootLayer", type := (.object "java/lang/ModuleLayer"), accessFlags := 8, slot := 13, constantValue := 0 }]
  methods := #[k23m0, k23m1]
  instanceTypes := #[]
  staticTypes := #[(.object "java/io/InputStream"), (.object "java/io/PrintStream"), (.object "java/io/PrintStream"), (.object "java/io/InputStream"), .int, .int, .int, (.object "java/lang/SecurityManager"), (.object "java/lang/String"), (.object "java/io/Console"), (.object "java/io/PrintStream"), (.object "java/util/Properties"), (.object "java/lang/String"), (.object "java/lang/ModuleLayer")]
  resolved := Array.replicate 834 none
  statics := none }

def pool24 : Array CpInfo := pool [(1, .class_ 2), (0, u "java/lang/String"), (1, .class_ 6), (1, u "java/lang/Object"), (0, u "<init>"), (0, u "()V"), (0, .methodref 1 10), (0, .nameAndType 11 12), (0, u "checkIndex"), (0, u "(II)V"), (1, .class_ 16), (1, u "java/lang/StringLatin1"), (36, u "([BI)C"), (36, u "canEncode"), (14, u "(C)Z"), (15, u "$assertionsDisabled"), (0, u "Z"), (98, .class_ 223), (1, u "java/lang/StringLatin1$LinesSpliterator"), (28, u "charAt"), (127, u "toBytes"), (1, u "(C)[B"), (7, .class_ 391), (0, u "java/lang/StringLatin1$CharsSpliterator")] 3

def k24m0 : Method := { name := "<init>", desc := "()V", sig := { parameters := [], returnType := none }, accessFlags := 0, code := none }
def k24c1 : Code := { maxStack := 2, maxLocals := 2, code := jdk_43_method_2_code, exceptionTable := #[], attributes := #[] }
def k24m1 : Method := { name := "charAt", desc := "([BI)C", sig := { parameters := [(.array .byte), .int], returnType := some .char }, accessFlags := 9, code := some k24c1 }
def k24c2 : Code := { maxStack := 2, maxLocals := 1, code := jdk_43_method_3_code, exceptionTable := #[], attributes := #[] }
def k24m2 : Method := { name := "canEncode", desc := "(C)Z", sig := { parameters := [.char], returnType := some .boolean }, accessFlags := 9, code := some k24c2 }
def k24c3 : Code := { maxStack := 4, maxLocals := 1, code := jdk_43_method_46_code, exceptionTable := #[], attributes := #[] }
def k24m3 : Method := { name := "toBytes", desc := "(C)[B", sig := { parameters := [.char], returnType := some (.array .byte) }, accessFlags := 9, code := some k24c3 }
/-- java/lang/StringLatin1 -/
def k24 : Class := { plain "java/lang/StringLatin1" (some 0) with
  accessFlags := 48
  interfaces := #[]
  cf := some (fileOf pool24 14 #[.nestMembers #[390, 221]] #[{ accessFlags := 0, nameIndex := 7, descriptorIndex := 8, attributes := #[] }, { accessFlags := 9, nameIndex := 252, descriptorIndex := 53, attributes := #[] }, { accessFlags := 9, nameIndex := 90, descriptorIndex := 105, attributes := #[] }, { accessFlags := 9, nameIndex := 380, descriptorIndex := 382, attributes := #[] }] 48 4 #[] #[{ accessFlags := 4120, nameIndex := 121, descriptorIndex := 122, attributes := #[] }])
  fields := #[{ name := "$assertionsDisabled", type := .boolean, accessFlags := 4120, slot := 0, constantValue := 0 }]
  methods := #[k24m0, k24m1, k24m2, k24m3]
  instanceTypes := #[]
  staticTypes := #[.boolean]
  resolved := Array.replicate 395 none
  statics := none }

def pool25 : Array CpInfo := pool [(2, .class_ 4), (1, u "java/lang/Object"), (0, u "<init>"), (0, u "()V"), (35, .class_ 44), (1, u "java/util/Objects"), (60, .methodref 106 107), (0, .class_ 108), (0, .nameAndType 109 110), (0, u "jdk/internal/util/Preconditions"), (0, u "checkIndex"), (0, u "(IILjava/util/function/BiFunction;)I"), (60, u "(II)I")] 12

def k25m0 : Method := { name := "<init>", desc := "()V", sig := { parameters := [], returnType := none }, accessFlags := 2, code := none }
def k25c1 : Code := { maxStack := 3, maxLocals := 2, code := jdk_31_method_17_code, exceptionTable := #[], attributes := #[] }
def k25m1 : Method := { name := "checkIndex", desc := "(II)I", sig := { parameters := [.int, .int], returnType := some .int }, accessFlags := 9, code := some k25c1 }
/-- java/util/Objects -/
def k25 : Class := { plain "java/util/Objects" (some 0) with
  accessFlags := 49
  interfaces := #[]
  cf := some (fileOf pool25 42 #[] #[{ accessFlags := 2, nameIndex := 5, descriptorIndex := 6, attributes := #[] }, { accessFlags := 9, nameIndex := 109, descriptorIndex := 171, attributes := #[] }] 49 2 #[] #[])
  fields := #[]
  methods := #[k25m0, k25m1]
  instanceTypes := #[]
  staticTypes := #[]
  resolved := Array.replicate 184 none
  statics := none }

def pool26 : Array CpInfo := pool [(2, .class_ 4), (1, u "java/lang/Object"), (0, u "<init>"), (0, u "()V"), (17, .class_ 26), (1, u "jdk/internal/util/Preconditions"), (6, u "checkIndex"), (21, .class_ 56), (0, u "jdk/internal/util/Preconditions$4"), (57, .class_ 115), (0, u "jdk/internal/util/Preconditions$1"), (7, u "SIOOBE_FORMATTER"), (0, u "Ljava/util/function/BiFunction;"), (0, .class_ 126), (0, u "jdk/internal/util/Preconditions$2"), (3, u "AIOOBE_FORMATTER"), (0, .class_ 132), (0, u "jdk/internal/util/Preconditions$3"), (3, u "IOOBE_FORMATTER"), (41, u "(IILjava/util/function/BiFunction;)I")] 15

def k26m0 : Method := { name := "<init>", desc := "()V", sig := { parameters := [], returnType := none }, accessFlags := 1, code := none }
def k26c1 : Code := { maxStack := 3, maxLocals := 3, code := jdk_41_method_11_code, exceptionTable := #[], attributes := #[] }
def k26m1 : Method := { name := "checkIndex", desc := "(IILjava/util/function/BiFunction;)I", sig := { parameters := [.int, .int, (.object "java/util/function/BiFunction")], returnType := some .int }, accessFlags := 9, code := some k26c1 }
/-- jdk/internal/util/Preconditions -/
def k26 : Class := { plain "jdk/internal/util/Preconditions" (some 0) with
  accessFlags := 33
  interfaces := #[]
  cf := some (fileOf pool26 24 #[.nestMembers #[55, 131, 125, 114]] #[{ accessFlags := 1, nameIndex := 5, descriptorIndex := 6, attributes := #[] }, { accessFlags := 9, nameIndex := 33, descriptorIndex := 178, attributes := #[] }] 33 2 #[] #[{ accessFlags := 25, nameIndex := 123, descriptorIndex := 124, attributes := #[] }, { accessFlags := 25, nameIndex := 130, descriptorIndex := 124, attributes := #[] }, { accessFlags := 25, nameIndex := 136, descriptorIndex := 124, attributes := #[] }])
  fields := #[{ name := "SIOOBE_FORMATTER", type := (.object "java/util/function/BiFunction"), accessFlags := 25, slot := 0, constantValue := 0 }, { name := "AIOOBE_FORMATTER", type := (.object "java/util/function/BiFunction"), accessFlags := 25, slot := 1, constantValue := 0 }, { name := "IOOBE_FORMATTER", type := (.object "java/util/function/BiFunction"), accessFlags := 25, slot := 2, constantValue := 0 }]
  methods := #[k26m0, k26m1]
  instanceTypes := #[]
  staticTypes := #[(.object "java/util/function/BiFunction"), (.object "java/util/function/BiFunction"), (.object "java/util/function/BiFunction")]
  resolved := Array.replicate 194 none
  statics := some 2 }

def pool27 : Array CpInfo := pool [(6, .class_ 8), (1, u "java/lang/Object"), (0, u "<init>"), (0, u "()V"), (1, .class_ 14), (1, u "java/lang/StringUTF16"), (31, u "$assertionsDisabled"), (0, u "Z"), (13, u "HI_BYTE_SHIFT"), (0, u "I"), (2, u "LO_BYTE_SHIFT"), (49, .methodref 12 116), (0, .nameAndType 117 118), (0, u "compress"), (0, u "([CI[BII)I"), (3, u "([CII)[B"), (138, u "coderFromArrayLen"), (0, u "([BI)B"), (106, .class_ 371), (1, u "java/lang/StringUTF16$LinesSpliterator"), (58, u "MAX_LENGTH"), (196, .class_ 628), (0, u "java/lang/StringUTF16$CodePointsSpliterator"), (0, .class_ 630), (0, u "java/lang/StringUTF16$CharsSpliterator")] 4

def k27m0 : Method := { name := "<init>", desc := "()V", sig := { parameters := [], returnType := none }, accessFlags := 0, code := none }
def k27c1 : Code := { maxStack := 2, maxLocals := 2, code := jdk_52_method_15_code, exceptionTable := #[], attributes := #[] }
def k27m1 : Method := { name := "coderFromArrayLen", desc := "([BI)B", sig := { parameters := [(.array .byte), .int], returnType := some .byte }, accessFlags := 8, code := some k27c1 }
def k27c2 : Code := { maxStack := 5, maxLocals := 6, code := jdk_52_method_16_code, exceptionTable := #[], attributes := #[] }
def k27m2 : Method := { name := "compress", desc := "([CII)[B", sig := { parameters := [(.array .char), .int, .int], returnType := some (.array .byte) }, accessFlags := 9, code := some k27c2 }
def k27c3 : Code := { maxStack := 3, maxLocals := 7, code := jdk_52_method_21_code, exceptionTable := #[], attributes := #[] }
def k27m3 : Method := { name := "compress", desc := "([CI[BII)I", sig := { parameters := [(.array .char), .int, (.array .byte), .int, .int], returnType := some .int }, accessFlags := 9, code := some k27c3 }
/-- java/lang/StringUTF16 -/
def k27 : Class := { plain "java/lang/StringUTF16" (some 0) with
  accessFlags := 48
  interfaces := #[]
  cf := some (fileOf pool27 12 #[.nestMembers #[627, 629, 369]] #[{ accessFlags := 0, nameIndex := 9, descriptorIndex := 10, attributes := #[] }, { accessFlags := 8, nameIndex := 261, descriptorIndex := 262, attributes := #[] }, { accessFlags := 9, nameIndex := 117, descriptorIndex := 122, attributes := #[] }, { accessFlags := 9, nameIndex := 117, descriptorIndex := 118, attributes := #[] }] 48 6 #[] #[{ accessFlags := 26, nameIndex := 61, descriptorIndex := 62, attributes := #[] }, { accessFlags := 26, nameIndex := 65, descriptorIndex := 62, attributes := #[] }, { accessFlags := 24, nameIndex := 430, descriptorIndex := 62, attributes := #[] }, { accessFlags := 4120, nameIndex := 46, descriptorIndex := 47, attributes := #[] }])
  fields := #[{ name := "HI_BYTE_SHIFT", type := .int, accessFlags := 26, slot := 0, constantValue := 0 }, { name := "LO_BYTE_SHIFT", type := .int, accessFlags := 26, slot := 1, constantValue := 0 }, { name := "MAX_LENGTH", type := .int, accessFlags := 24, slot := 2, constantValue := 0 }, { name := "$assertionsDisabled", type := .boolean, accessFlags := 4120, slot := 3, constantValue := 0 }]
  methods := #[k27m0, k27m1, k27m2, k27m3]
  instanceTypes := #[]
  staticTypes := #[.int, .int, .int, .boolean]
  resolved := Array.replicate 635 none
  statics := none }

def pool28 : Array CpInfo := pool [(9, u "<init>"), (6, .class_ 18), (1, u "java/lang/Object"), (0, u "()V"), (1, .class_ 23), (1, u "jdk/internal/util/ArraysSupport"), (0, u "LOG2_ARRAY_LONG_INDEX_SCALE"), (0, u "I"), (2, u "U"), (0, u "Ljdk/internal/misc/Unsafe;"), (8, u "BIG_ENDIAN"), (0, u "Z"), (8, u "LOG2_BYTE_BIT_SIZE"), (4, u "LOG2_ARRAY_INT_INDEX_SCALE"), (54, u "JLA"), (0, u "Ljdk/internal/access/JavaLangAccess;"), (11, u "LOG2_ARRAY_BOOLEAN_INDEX_SCALE"), (9, u "LOG2_ARRAY_BYTE_INDEX_SCALE"), (5, u "LOG2_ARRAY_CHAR_INDEX_SCALE"), (5, u "LOG2_ARRAY_SHORT_INDEX_SCALE"), (18, u "LOG2_ARRAY_FLOAT_INDEX_SCALE"), (24, u "LOG2_ARRAY_DOUBLE_INDEX_SCALE"), (6, .methodref 195 196), (0, .class_ 197), (0, .nameAndType 198 199), (0, u "java/lang/Math"), (0, u "max"), (0, u "(II)I"), (0, .integer 2147483639), (76, u "T_BOOLEAN"), (2, u "T_CHAR"), (1, u "T_FLOAT"), (1, u "T_DOUBLE"), (1, u "T_BYTE"), (1, u "T_SHORT"), (1, u "T_INT"), (1, u "T_LONG"), (1, u "SOFT_MAX_ARRAY_LENGTH"), (56, u "newLength"), (0, u "(III)I")] 25

def k28m0 : Method := { name := "<init>", desc := "()V", sig := { parameters := [], returnType := none }, accessFlags := 2, code := none }
def k28c1 : Code := { maxStack := 3, maxLocals := 4, code := jdk_48_method_27_code, exceptionTable := #[], attributes := #[] }
def k28m1 : Method := { name := "newLength", desc := "(III)I", sig := { parameters := [.int, .int, .int], returnType := some .int }, accessFlags := 9, code := some k28c1 }
/-- jdk/internal/util/ArraysSupport -/
def k28 : Class := { plain "jdk/internal/util/ArraysSupport" (some 0) with
  accessFlags := 33
  interfaces := #[]
  cf := some (fileOf pool28 21 #[] #[{ accessFlags := 2, nameIndex := 9, descriptorIndex := 19, attributes := #[] }, { accessFlags := 9, nameIndex := 351, descriptorIndex := 352, attributes := #[] }] 33 16 #[] #[{ accessFlags := 24, nameIndex := 28, descriptorIndex := 29, attributes := #[] }, { accessFlags := 26, nameIndex := 38, descriptorIndex := 39, attributes := #[] }, { accessFlags := 25, nameIndex := 121, descriptorIndex := 25, attributes := #[] }, { accessFlags := 25, nameIndex := 131, descriptorIndex := 25, attributes := #[] }, { accessFlags := 25, nameIndex := 137, descriptorIndex := 25, attributes := #[] }, { accessFlags := 25, nameIndex := 143, descriptorIndex := 25, attributes := #[] }, { accessFlags := 25, nameIndex := 53, descriptorIndex := 25, attributes := #[] }, { accessFlags := 25, nameIndex := 24, descriptorIndex := 25, attributes := #[] }, { accessFlags := 25, nameIndex := 162, descriptorIndex := 25, attributes := #[] }, { accessFlags := 25, nameIndex := 187, descriptorIndex := 25, attributes := #[] }, { accessFlags := 26, nameIndex := 48, descriptorIndex := 25, attributes := #[] }, { accessFlags := 25, nameIndex := 277, descriptorIndex := 25, attributes := #[] }, { accessFlags := 25, nameIndex := 280, descriptorIndex := 25, attributes := #[] }, { accessFlags := 25, nameIndex := 282, descriptorIndex := 25, attributes := #[] }, { accessFlags := 25, nameIndex := 284, descriptorIndex := 25, attributes := #[] }, { accessFlags := 25, nameIndex := 286, descriptorIndex := 25, attributes := #[] }, { accessFlags := 25, nameIndex := 288, descriptorIndex := 25, attributes := #[] }, { accessFlags := 25, nameIndex := 290, descriptorIndex := 25, attributes := #[] }, { accessFlags := 25, nameIndex := 292, descriptorIndex := 25, attributes := #[] }, { accessFlags := 26, nameIndex := 108, descriptorIndex := 109, attributes := #[] }, { accessFlags := 25, nameIndex := 294, descriptorIndex := 25, attributes := #[] }])
  fields := #[{ name := "U", type := (.object "jdk/internal/misc/Unsafe"), accessFlags := 24, slot := 0, constantValue := 0 }, { name := "BIG_ENDIAN", type := .boolean, accessFlags := 26, slot := 1, constantValue := 0 }, { name := "LOG2_ARRAY_BOOLEAN_INDEX_SCALE", type := .int, accessFlags := 25, slot := 2, constantValue := 0 }, { name := "LOG2_ARRAY_BYTE_INDEX_SCALE", type := .int, accessFlags := 25, slot := 3, constantValue := 0 }, { name := "LOG2_ARRAY_CHAR_INDEX_SCALE", type := .int, accessFlags := 25, slot := 4, constantValue := 0 }, { name := "LOG2_ARRAY_SHORT_INDEX_SCALE", type := .int, accessFlags := 25, slot := 5, constantValue := 0 }, { name := "LOG2_ARRAY_INT_INDEX_SCALE", type := .int, accessFlags := 25, slot := 6, constantValue := 0 }, { name := "LOG2_ARRAY_LONG_INDEX_SCALE", type := .int, accessFlags := 25, slot := 7, constantValue := 0 }, { name := "LOG2_ARRAY_FLOAT_INDEX_SCALE", type := .int, accessFlags := 25, slot := 8, constantValue := 0 }, { name := "LOG2_ARRAY_DOUBLE_INDEX_SCALE", type := .int, accessFlags := 25, slot := 9, constantValue := 0 }, { name := "LOG2_BYTE_BIT_SIZE", type := .int, accessFlags := 26, slot := 10, constantValue := 0 }, { name := "T_BOOLEAN", type := .int, accessFlags := 25, slot := 11, constantValue := 0 }, { name := "T_CHAR", type := .int, accessFlags := 25, slot := 12, constantValue := 0 }, { name := "T_FLOAT", type := .int, accessFlags := 25, slot := 13, constantValue := 0 }, { name := "T_DOUBLE", type := .int, accessFlags := 25, slot := 14, constantValue := 0 }, { name := "T_BYTE", type := .int, accessFlags := 25, slot := 15, constantValue := 0 }, { name := "T_SHORT", type := .int, accessFlags := 25, slot := 16, constantValue := 0 }, { name := "T_INT", type := .int, accessFlags := 25, slot := 17, constantValue := 0 }, { name := "T_LONG", type := .int, accessFlags := 25, slot := 18, constantValue := 0 }, { name := "JLA", type := (.object "jdk/internal/access/JavaLangAccess"), accessFlags := 26, slot := 19, constantValue := 0 }, { name := "SOFT_MAX_ARRAY_LENGTH", type := .int, accessFlags := 25, slot := 20, constantValue := 0 }]
  methods := #[k28m0, k28m1]
  instanceTypes := #[]
  staticTypes := #[(.object "jdk/internal/misc/Unsafe"), .boolean, .int, .int, .int, .int, .int, .int, .int, .int, .int, .int, .int, .int, .int, .int, .int, .int, .int, (.object "jdk/internal/access/JavaLangAccess"), .int]
  resolved := Array.replicate 378 none
  statics := none }

/-- the primitive byte -/
def k29 : Class := { plain "byte" none with kind := .primitive 'B', accessFlags := 0x411 }
/-- [B -/
def k30 : Class := { plain "[B" (some 0) with kind := .array 29 .byte, interfaces := #[9, 10], accessFlags := 1041 }

/-- the primitive char -/
def k31 : Class := { plain "char" none with kind := .primitive 'C', accessFlags := 0x411 }
/-- [C -/
def k32 : Class := { plain "[C" (some 0) with kind := .array 31 .char, interfaces := #[9, 10], accessFlags := 1041 }

/-- the primitive int -/
def k33 : Class := { plain "int" none with kind := .primitive 'I', accessFlags := 0x411 }
/-- [I -/
def k34 : Class := { plain "[I" (some 0) with kind := .array 33 .int, interfaces := #[9, 10], accessFlags := 1041 }

/-- [Ljava/lang/Object; -/
def k35 : Class := { plain "[Ljava/lang/Object;" (some 0) with kind := .array 0 (.object "java/lang/Object"), interfaces := #[9, 10], accessFlags := 1041 }

def heap : Heap := #[{ cls := 11, slots := #[.long 0, .int 0, .ref 3, .ref 4], vm := .statics 11 },
  { cls := 20, slots := #[.long 0, .int 1, .null, .int 0, .null, .int 0, .int 0], vm := .statics 20 },
  { cls := 26, slots := #[.null, .null, .null], vm := .statics 26 },
  { cls := 35, slots := #[], vm := .none },
  { cls := 35, slots := #[], vm := .none }]
def classes : Array Class := #[k0, k1, k2, k3, k4, k5, k6, k7, k8, k9, k10, k11, k12, k13, k14, k15, k16, k17, k18, k19, k20, k21, k22, k23, k24, k25, k26, k27, k28, k29, k30, k31, k32, k33, k34, k35]
def interned : List (Array UInt16 × Addr) := []
def slotsUsed : Nat := 14
def theMethod : MethodId := ⟨1, 1⟩
def args0 : Array Value := #[.int 5, .int 6, .int 7]
def aboutOver (below : List Frame) : State where
  vm := { classes := classes, interned := interned.toArray }
  heap := heap
  slotsUsed := slotsUsed
  threads := #[{ frames := .invoking theMethod args0 :: below }]
def below0 : List Frame := [.native { method := ⟨0, 0⟩, args := #[] }]
def about1 : State := aboutOver below0
def p0 : Program := .bare "" "" ""
def e0 : Env := launch0.env 0 0 0
theorem w_frames : about1.frames = Frame.invoking theMethod args0 :: below0 := rfl
set_option maxRecDepth 65536 in
theorem w_args : argsFit about1.vm theMethod args0 = true := by decide +kernel
set_option maxRecDepth 65536 in
theorem w_heap : heapFits about1 = true := by decide +kernel
set_option maxRecDepth 65536 in
theorem w_runnable : about1.curStatus? = some .runnable := by decide +kernel
set_option maxRecDepth 65536 in
theorem w_alone : about1.alone = true := by decide +kernel
set_option maxRecDepth 65536 in
theorem w_named : about1.methodNamed? x = some theMethod := by decide +kernel
set_option maxRecDepth 65536 in
theorem w_hears : about1.hears theMethod below0 = true := by decide +kernel
set_option maxRecDepth 65536 in
theorem w_ripe : about1.ripe theMethod args0 below0 = true := by decide +kernel
theorem w_running : about1.status = .running := rfl
set_option maxRecDepth 65536 in
theorem w_room : about1.hasRoom e0.platform room_1 = true :=
  launch0.hasRoom_least _ room_1 (by decide +kernel) (by decide +kernel) (by decide +kernel) (by decide +kernel) (by decide +kernel) (by decide +kernel)
theorem allAtoms_all (ts : List Jvm.Cond) (a : Array Jvm.Value) (st : Jvm.State) : (allAtoms ts).before a st = ts.all (fun c => c.before a st) := by
  induction ts with
  | nil => rfl
  | cons c t ih =>
    show (Jvm.Cond.and c (allAtoms t)).before a st = _
    rw [Jvm.Cond.before_and, ih, List.all_cons]
def words1 : List Jvm.Cond := Jvm.Cond.code x code maxLocals ret :: tables_1
/-- a 'code' word, met by the world's own term for the bytes: nothing is compared byte by byte -/
theorem code_word {y : MethodName} {bytes : ByteArray} {mx : Nat} {rt : Option FieldType} {a : Array Value} {s : State} {m : MethodId} {meth : Method} {c : Code} (h1 : s.methodNamed? y = some m) (h2 : s.vm.method? m = some meth) (h3 : meth.code = some c) (h4 : c.code = bytes)
    (h5 : (c.maxLocals == mx && c.exceptionTable.isEmpty && decide (c.maxStack ≤ mostOperands) && decide (meth.sig.returnType = rt) && !meth.locks && decide (parseMethodDescriptor y.desc = some meth.sig)) = true) : (Jvm.Cond.code y bytes mx rt).before a s = true := by
  simp only [Bool.and_eq_true, beq_iff_eq, Bool.not_eq_true', decide_eq_true_eq] at h5
  obtain ⟨⟨⟨⟨⟨g1, g2⟩, g3⟩, g4⟩, g5⟩, g6⟩ := h5
  simp [Cond.before, Cond.holds, Cond.value, h1, h2, h3, h4, g1, g2, g3, g4, g5, g6]
def isCode : Jvm.Cond → Bool
  | .code _ _ _ _ => true
  | _ => false
theorem all_split {L : List Jvm.Cond} {P : Jvm.Cond → Bool} (h1 : L.all (fun c => isCode c || P c) = true) (h2 : ∀ c ∈ L.filter isCode, P c = true) : L.all P = true := by
  refine List.all_eq_true.mpr fun c hc => ?_
  have h := List.all_eq_true.mp h1 c hc
  rcases Bool.eq_false_or_eq_true (isCode c) with hi | hi
  · exact h2 c (List.mem_filter.mpr ⟨hc, hi⟩)
  · simpa [hi] using h
set_option maxRecDepth 65536 in
theorem w_c0 : (Jvm.Cond.code x code maxLocals ret).before args0 about1 = true := code_word (m := ⟨1, 1⟩) (meth := k1m1) (c := k1c1) (by decide +kernel) rfl rfl rfl (by decide +kernel)
set_option maxRecDepth 65536 in
theorem w_c1 : (Jvm.Cond.code ({ cls := "com/example/meerkat/meerkat/metrics/ExpositionLabelsPinLaw", name := "ch", desc := "(II)C" } : Jvm.MethodName) method_4_code (5 : Nat) (Option.some Jvm.ClassFile.FieldType.char)).before args0 about1 = true := code_word (m := ⟨1, 3⟩) (meth := k1m3) (c := k1c3) (by decide +kernel) rfl rfl rfl (by decide +kernel)
set_option maxRecDepth 65536 in
theorem w_c2 : (Jvm.Cond.code ({ cls := "java/util/ArrayList", name := "<init>", desc := "()V" } : Jvm.MethodName) jdk_38_method_2_code (1 : Nat) (Option.none : Option Jvm.ClassFile.FieldType)).before args0 about1 = true := code_word (m := ⟨11, 0⟩) (meth := k11m0) (c := k11c0) (by decide +kernel) rfl rfl rfl (by decide +kernel)
set_option maxRecDepth 65536 in
theorem w_c3 : (Jvm.Cond.code ({ cls := "java/util/AbstractList", name := "<init>", desc := "()V" } : Jvm.MethodName) jdk_39_method_1_code (1 : Nat) (Option.none : Option Jvm.ClassFile.FieldType)).before args0 about1 = true := code_word (m := ⟨7, 0⟩) (meth := k7m0) (c := k7c0) (by decide +kernel) rfl rfl rfl (by decide +kernel)
set_option maxRecDepth 65536 in
theorem w_c4 : (Jvm.Cond.code ({ cls := "java/util/AbstractCollection", name := "<init>", desc := "()V" } : Jvm.MethodName) jdk_22_method_1_code (1 : Nat) (Option.none : Option Jvm.ClassFile.FieldType)).before args0 about1 = true := code_word (m := ⟨4, 0⟩) (meth := k4m0) (c := k4c0) (by decide +kernel) rfl rfl rfl (by decide +kernel)
set_option maxRecDepth 65536 in
theorem w_c5 : (Jvm.Cond.code ({ cls := "java/lang/Object", name := "<init>", desc := "()V" } : Jvm.MethodName) object_method_1_code (1 : Nat) (Option.none : Option Jvm.ClassFile.FieldType)).before args0 about1 = true := code_word (m := ⟨0, 0⟩) (meth := k0m0) (c := k0c0) (by decide +kernel) rfl rfl rfl (by decide +kernel)
set_option maxRecDepth 65536 in
theorem w_c6 : (Jvm.Cond.code ({ cls := "com/example/meerkat/meerkat/metrics/Exposition", name := "labels", desc := "(Ljava/util/List;Ljava/util/List;)Ljava/lang/String;" } : Jvm.MethodName) prog_10_method_5_code (4 : Nat) (Option.some (Jvm.ClassFile.FieldType.object "java/lang/String"))).before args0 about1 = true := code_word (m := ⟨12, 1⟩) (meth := k12m1) (c := k12c1) (by decide +kernel) rfl rfl rfl (by decide +kernel)
set_option maxRecDepth 65536 in
theorem w_c7 : (Jvm.Cond.code ({ cls := "java/lang/StringBuilder", name := "<init>", desc := "()V" } : Jvm.MethodName) jdk_67_method_1_code (1 : Nat) (Option.none : Option Jvm.ClassFile.FieldType)).before args0 about1 = true := code_word (m := ⟨17, 0⟩) (meth := k17m0) (c := k17c0) (by decide +kernel) rfl rfl rfl (by decide +kernel)
set_option maxRecDepth 65536 in
theorem w_c8 : (Jvm.Cond.code ({ cls := "java/lang/AbstractStringBuilder", name := "<init>", desc := "(I)V" } : Jvm.MethodName) jdk_68_method_2_code (2 : Nat) (Option.none : Option Jvm.ClassFile.FieldType)).before args0 about1 = true := code_word (m := ⟨15, 1⟩) (meth := k15m1) (c := k15c1) (by decide +kernel) rfl rfl rfl (by decide +kernel)
set_option maxRecDepth 65536 in
theorem w_c9 : (Jvm.Cond.code ({ cls := "java/util/ArrayList", name := "size", desc := "()I" } : Jvm.MethodName) jdk_38_method_8_code (1 : Nat) (Option.some Jvm.ClassFile.FieldType.int)).before args0 about1 = true := code_word (m := ⟨11, 3⟩) (meth := k11m3) (c := k11c3) (by decide +kernel) rfl rfl rfl (by decide +kernel)
set_option maxRecDepth 65536 in
theorem w_c10 : (Jvm.Cond.code ({ cls := "java/lang/StringBuilder", name := "toString", desc := "()Ljava/lang/String;" } : Jvm.MethodName) jdk_67_method_42_code (1 : Nat) (Option.some (Jvm.ClassFile.FieldType.object "java/lang/String"))).before args0 about1 = true := code_word (m := ⟨17, 3⟩) (meth := k17m3) (c := k17c3) (by decide +kernel) rfl rfl rfl (by decide +kernel)
set_option maxRecDepth 65536 in
theorem w_c11 : (Jvm.Cond.code ({ cls := "java/lang/String", name := "<init>", desc := "(Ljava/lang/StringBuilder;)V" } : Jvm.MethodName) jdk_42_method_53_code (2 : Nat) (Option.none : Option Jvm.ClassFile.FieldType)).before args0 about1 = true := code_word (m := ⟨20, 2⟩) (meth := k20m2) (c := k20c2) (by decide +kernel) rfl rfl rfl (by decide +kernel)
set_option maxRecDepth 65536 in
theorem w_c12 : (Jvm.Cond.code ({ cls := "java/lang/String", name := "<init>", desc := "(Ljava/lang/AbstractStringBuilder;Ljava/lang/Void;)V" } : Jvm.MethodName) jdk_42_method_150_code (5 : Nat) (Option.none : Option Jvm.ClassFile.FieldType)).before args0 about1 = true := code_word (m := ⟨20, 8⟩) (meth := k20m8) (c := k20c8) (by decide +kernel) rfl rfl rfl (by decide +kernel)
set_option maxRecDepth 65536 in
theorem w_c13 : (Jvm.Cond.code ({ cls := "java/lang/AbstractStringBuilder", name := "getValue", desc := "()[B" } : Jvm.MethodName) jdk_68_method_64_code (1 : Nat) (Option.some (Jvm.ClassFile.FieldType.array Jvm.ClassFile.FieldType.byte))).before args0 about1 = true := code_word (m := ⟨15, 7⟩) (meth := k15m7) (c := k15c7) (by decide +kernel) rfl rfl rfl (by decide +kernel)
set_option maxRecDepth 65536 in
theorem w_c14 : (Jvm.Cond.code ({ cls := "java/lang/StringBuilder", name := "length", desc := "()I" } : Jvm.MethodName) jdk_67_method_93_code (1 : Nat) (Option.some Jvm.ClassFile.FieldType.int)).before args0 about1 = true := code_word (m := ⟨17, 4⟩) (meth := k17m4) (c := k17c4) (by decide +kernel) rfl rfl rfl (by decide +kernel)
set_option maxRecDepth 65536 in
theorem w_c15 : (Jvm.Cond.code ({ cls := "java/lang/AbstractStringBuilder", name := "length", desc := "()I" } : Jvm.MethodName) jdk_68_method_6_code (1 : Nat) (Option.some Jvm.ClassFile.FieldType.int)).before args0 about1 = true := code_word (m := ⟨15, 2⟩) (meth := k15m2) (c := k15c2) (by decide +kernel) rfl rfl rfl (by decide +kernel)
set_option maxRecDepth 65536 in
theorem w_c16 : (Jvm.Cond.code ({ cls := "java/lang/AbstractStringBuilder", name := "isLatin1", desc := "()Z" } : Jvm.MethodName) jdk_68_method_68_code (1 : Nat) (Option.some Jvm.ClassFile.FieldType.boolean)).before args0 about1 = true := code_word (m := ⟨15, 8⟩) (meth := k15m8) (c := k15c8) (by decide +kernel) rfl rfl rfl (by decide +kernel)
set_option maxRecDepth 65536 in
theorem w_c17 : (Jvm.Cond.code ({ cls := "java/util/Arrays", name := "copyOfRange", desc := "([BII)[B" } : Jvm.MethodName) jdk_65_method_132_code (3 : Nat) (Option.some (Jvm.ClassFile.FieldType.array Jvm.ClassFile.FieldType.byte))).before args0 about1 = true := code_word (m := ⟨21, 3⟩) (meth := k21m3) (c := k21c3) (by decide +kernel) rfl rfl rfl (by decide +kernel)
set_option maxRecDepth 65536 in
theorem w_c18 : (Jvm.Cond.code ({ cls := "java/util/Arrays", name := "copyOfRangeByte", desc := "([BII)[B" } : Jvm.MethodName) jdk_65_method_133_code (5 : Nat) (Option.some (Jvm.ClassFile.FieldType.array Jvm.ClassFile.FieldType.byte))).before args0 about1 = true := code_word (m := ⟨21, 4⟩) (meth := k21m4) (c := k21c4) (by decide +kernel) rfl rfl rfl (by decide +kernel)
set_option maxRecDepth 65536 in
theorem w_c19 : (Jvm.Cond.code ({ cls := "java/util/Arrays", name := "checkLength", desc := "(II)V" } : Jvm.MethodName) jdk_65_method_131_code (2 : Nat) (Option.none : Option Jvm.ClassFile.FieldType)).before args0 about1 = true := code_word (m := ⟨21, 2⟩) (meth := k21m2) (c := k21c2) (by decide +kernel) rfl rfl rfl (by decide +kernel)
set_option maxRecDepth 65536 in
theorem w_c20 : (Jvm.Cond.code ({ cls := "java/lang/Math", name := "min", desc := "(II)I" } : Jvm.MethodName) jdk_29_method_69_code (2 : Nat) (Option.some Jvm.ClassFile.FieldType.int)).before args0 about1 = true := code_word (m := ⟨22, 2⟩) (meth := k22m2) (c := k22c2) (by decide +kernel) rfl rfl rfl (by decide +kernel)
set_option maxRecDepth 65536 in
theorem w_c21 : (Jvm.Cond.code ({ cls := "java/lang/String", name := "length", desc := "()I" } : Jvm.MethodName) jdk_42_method_54_code (1 : Nat) (Option.some Jvm.ClassFile.FieldType.int)).before args0 about1 = true := code_word (m := ⟨20, 3⟩) (meth := k20m3) (c := k20c3) (by decide +kernel) rfl rfl rfl (by decide +kernel)
set_option maxRecDepth 65536 in
theorem w_c22 : (Jvm.Cond.code ({ cls := "java/lang/String", name := "coder", desc := "()B" } : Jvm.MethodName) jdk_42_method_152_code (1 : Nat) (Option.some Jvm.ClassFile.FieldType.byte)).before args0 about1 = true := code_word (m := ⟨20, 10⟩) (meth := k20m10) (c := k20c10) (by decide +kernel) rfl rfl rfl (by decide +kernel)
set_option maxRecDepth 65536 in
theorem w_c23 : (Jvm.Cond.code ({ cls := "com/example/meerkat/meerkat/metrics/ExpositionLabelsPinLaw", name := "at", desc := "(Ljava/lang/String;[CII)Z" } : Jvm.MethodName) method_3_code (4 : Nat) (Option.some Jvm.ClassFile.FieldType.boolean)).before args0 about1 = true := code_word (m := ⟨1, 2⟩) (meth := k1m2) (c := k1c2) (by decide +kernel) rfl rfl rfl (by decide +kernel)
set_option maxRecDepth 65536 in
theorem w_c24 : (Jvm.Cond.code ({ cls := "java/lang/String", name := "valueOf", desc := "(C)Ljava/lang/String;" } : Jvm.MethodName) jdk_42_method_139_code (1 : Nat) (Option.some (Jvm.ClassFile.FieldType.object "java/lang/String"))).before args0 about1 = true := code_word (m := ⟨20, 5⟩) (meth := k20m5) (c := k20c5) (by decide +kernel) rfl rfl rfl (by decide +kernel)
set_option maxRecDepth 65536 in
theorem w_c25 : (Jvm.Cond.code ({ cls := "java/lang/StringLatin1", name := "canEncode", desc := "(C)Z" } : Jvm.MethodName) jdk_43_method_3_code (1 : Nat) (Option.some Jvm.ClassFile.FieldType.boolean)).before args0 about1 = true := code_word (m := ⟨24, 2⟩) (meth := k24m2) (c := k24c2) (by decide +kernel) rfl rfl rfl (by decide +kernel)
set_option maxRecDepth 65536 in
theorem w_c26 : (Jvm.Cond.code ({ cls := "java/lang/StringLatin1", name := "toBytes", desc := "(C)[B" } : Jvm.MethodName) jdk_43_method_46_code (1 : Nat) (Option.some (Jvm.ClassFile.FieldType.array Jvm.ClassFile.FieldType.byte))).before args0 about1 = true := code_word (m := ⟨24, 3⟩) (meth := k24m3) (c := k24c3) (by decide +kernel) rfl rfl rfl (by decide +kernel)
set_option maxRecDepth 65536 in
theorem w_c27 : (Jvm.Cond.code ({ cls := "java/lang/String", name := "<init>", desc := "([BB)V" } : Jvm.MethodName) jdk_42_method_151_code (3 : Nat) (Option.none : Option Jvm.ClassFile.FieldType)).before args0 about1 = true := code_word (m := ⟨20, 9⟩) (meth := k20m9) (c := k20c9) (by decide +kernel) rfl rfl rfl (by decide +kernel)
set_option maxRecDepth 65536 in
theorem w_c28 : (Jvm.Cond.code ({ cls := "java/util/ArrayList", name := "add", desc := "(Ljava/lang/Object;)Z" } : Jvm.MethodName) jdk_38_method_25_code (2 : Nat) (Option.some Jvm.ClassFile.FieldType.boolean)).before args0 about1 = true := code_word (m := ⟨11, 7⟩) (meth := k11m7) (c := k11c7) (by decide +kernel) rfl rfl rfl (by decide +kernel)
set_option maxRecDepth 65536 in
theorem w_c29 : (Jvm.Cond.code ({ cls := "java/util/ArrayList", name := "add", desc := "(Ljava/lang/Object;[Ljava/lang/Object;I)V" } : Jvm.MethodName) jdk_38_method_24_code (4 : Nat) (Option.none : Option Jvm.ClassFile.FieldType)).before args0 about1 = true := code_word (m := ⟨11, 6⟩) (meth := k11m6) (c := k11c6) (by decide +kernel) rfl rfl rfl (by decide +kernel)
set_option maxRecDepth 65536 in
theorem w_c30 : (Jvm.Cond.code ({ cls := "java/util/ArrayList", name := "grow", desc := "()[Ljava/lang/Object;" } : Jvm.MethodName) jdk_38_method_7_code (1 : Nat) (Option.some (Jvm.ClassFile.FieldType.array (Jvm.ClassFile.FieldType.object "java/lang/Object")))).before args0 about1 = true := code_word (m := ⟨11, 2⟩) (meth := k11m2) (c := k11c2) (by decide +kernel) rfl rfl rfl (by decide +kernel)
set_option maxRecDepth 65536 in
theorem w_c31 : (Jvm.Cond.code ({ cls := "java/util/ArrayList", name := "grow", desc := "(I)[Ljava/lang/Object;" } : Jvm.MethodName) jdk_38_method_6_code (4 : Nat) (Option.some (Jvm.ClassFile.FieldType.array (Jvm.ClassFile.FieldType.object "java/lang/Object")))).before args0 about1 = true := code_word (m := ⟨11, 1⟩) (meth := k11m1) (c := k11c1) (by decide +kernel) rfl rfl rfl (by decide +kernel)
set_option maxRecDepth 65536 in
theorem w_c32 : (Jvm.Cond.code ({ cls := "java/lang/Math", name := "max", desc := "(II)I" } : Jvm.MethodName) jdk_29_method_65_code (2 : Nat) (Option.some Jvm.ClassFile.FieldType.int)).before args0 about1 = true := code_word (m := ⟨22, 1⟩) (meth := k22m1) (c := k22c1) (by decide +kernel) rfl rfl rfl (by decide +kernel)
set_option maxRecDepth 65536 in
theorem w_c33 : (Jvm.Cond.code ({ cls := "com/example/meerkat/meerkat/metrics/ExpositionLabelsPinLaw", name := "value", desc := "(ICC)Ljava/lang/String;" } : Jvm.MethodName) method_5_code (3 : Nat) (Option.some (Jvm.ClassFile.FieldType.object "java/lang/String"))).before args0 about1 = true := code_word (m := ⟨1, 4⟩) (meth := k1m4) (c := k1c4) (by decide +kernel) rfl rfl rfl (by decide +kernel)
set_option maxRecDepth 65536 in
theorem w_c34 : (Jvm.Cond.code ({ cls := "java/lang/StringBuilder", name := "append", desc := "(Ljava/lang/String;)Ljava/lang/StringBuilder;" } : Jvm.MethodName) jdk_67_method_7_code (2 : Nat) (Option.some (Jvm.ClassFile.FieldType.object "java/lang/StringBuilder"))).before args0 about1 = true := code_word (m := ⟨17, 1⟩) (meth := k17m1) (c := k17c1) (by decide +kernel) rfl rfl rfl (by decide +kernel)
set_option maxRecDepth 65536 in
theorem w_c35 : (Jvm.Cond.code ({ cls := "java/lang/AbstractStringBuilder", name := "append", desc := "(Ljava/lang/String;)Ljava/lang/AbstractStringBuilder;" } : Jvm.MethodName) jdk_68_method_22_code (3 : Nat) (Option.some (Jvm.ClassFile.FieldType.object "java/lang/AbstractStringBuilder"))).before args0 about1 = true := code_word (m := ⟨15, 5⟩) (meth := k15m5) (c := k15c5) (by decide +kernel) rfl rfl rfl (by decide +kernel)
set_option maxRecDepth 65536 in
theorem w_c36 : (Jvm.Cond.code ({ cls := "java/lang/AbstractStringBuilder", name := "ensureCapacityInternal", desc := "(I)V" } : Jvm.MethodName) jdk_68_method_9_code (3 : Nat) (Option.none : Option Jvm.ClassFile.FieldType)).before args0 about1 = true := code_word (m := ⟨15, 3⟩) (meth := k15m3) (c := k15c3) (by decide +kernel) rfl rfl rfl (by decide +kernel)
set_option maxRecDepth 65536 in
theorem w_c37 : (Jvm.Cond.code ({ cls := "java/lang/AbstractStringBuilder", name := "putStringAt", desc := "(ILjava/lang/String;)V" } : Jvm.MethodName) jdk_68_method_73_code (3 : Nat) (Option.none : Option Jvm.ClassFile.FieldType)).before args0 about1 = true := code_word (m := ⟨15, 10⟩) (meth := k15m10) (c := k15c10) (by decide +kernel) rfl rfl rfl (by decide +kernel)
set_option maxRecDepth 65536 in
theorem w_c38 : (Jvm.Cond.code ({ cls := "java/lang/AbstractStringBuilder", name := "inflateIfNeededFor", desc := "(Ljava/lang/String;)V" } : Jvm.MethodName) jdk_68_method_71_code (2 : Nat) (Option.none : Option Jvm.ClassFile.FieldType)).before args0 about1 = true := code_word (m := ⟨15, 9⟩) (meth := k15m9) (c := k15c9) (by decide +kernel) rfl rfl rfl (by decide +kernel)
set_option maxRecDepth 65536 in
theorem w_c39 : (Jvm.Cond.code ({ cls := "java/lang/String", name := "getBytes", desc := "([BIB)V" } : Jvm.MethodName) jdk_42_method_147_code (4 : Nat) (Option.none : Option Jvm.ClassFile.FieldType)).before args0 about1 = true := code_word (m := ⟨20, 6⟩) (meth := k20m6) (c := k20c6) (by decide +kernel) rfl rfl rfl (by decide +kernel)
set_option maxRecDepth 65536 in
theorem w_c40 : (Jvm.Cond.code ({ cls := "java/util/ArrayList", name := "get", desc := "(I)Ljava/lang/Object;" } : Jvm.MethodName) jdk_38_method_20_code (2 : Nat) (Option.some (Jvm.ClassFile.FieldType.object "java/lang/Object"))).before args0 about1 = true := code_word (m := ⟨11, 5⟩) (meth := k11m5) (c := k11c5) (by decide +kernel) rfl rfl rfl (by decide +kernel)
set_option maxRecDepth 65536 in
theorem w_c41 : (Jvm.Cond.code ({ cls := "java/util/Objects", name := "checkIndex", desc := "(II)I" } : Jvm.MethodName) jdk_31_method_17_code (2 : Nat) (Option.some Jvm.ClassFile.FieldType.int)).before args0 about1 = true := code_word (m := ⟨25, 1⟩) (meth := k25m1) (c := k25c1) (by decide +kernel) rfl rfl rfl (by decide +kernel)
set_option maxRecDepth 65536 in
theorem w_c42 : (Jvm.Cond.code ({ cls := "jdk/internal/util/Preconditions", name := "checkIndex", desc := "(IILjava/util/function/BiFunction;)I" } : Jvm.MethodName) jdk_41_method_11_code (3 : Nat) (Option.some Jvm.ClassFile.FieldType.int)).before args0 about1 = true := code_word (m := ⟨26, 1⟩) (meth := k26m1) (c := k26c1) (by decide +kernel) rfl rfl rfl (by decide +kernel)
set_option maxRecDepth 65536 in
theorem w_c43 : (Jvm.Cond.code ({ cls := "java/util/ArrayList", name := "elementData", desc := "(I)Ljava/lang/Object;" } : Jvm.MethodName) jdk_38_method_18_code (2 : Nat) (Option.some (Jvm.ClassFile.FieldType.object "java/lang/Object"))).before args0 about1 = true := code_word (m := ⟨11, 4⟩) (meth := k11m4) (c := k11c4) (by decide +kernel) rfl rfl rfl (by decide +kernel)
set_option maxRecDepth 65536 in
theorem w_c44 : (Jvm.Cond.code ({ cls := "com/example/meerkat/meerkat/metrics/Exposition", name := "escape", desc := "(Ljava/lang/String;ZLjava/lang/StringBuilder;)V" } : Jvm.MethodName) prog_10_method_8_code (5 : Nat) (Option.none : Option Jvm.ClassFile.FieldType)).before args0 about1 = true := code_word (m := ⟨12, 2⟩) (meth := k12m2) (c := k12c2) (by decide +kernel) rfl rfl rfl (by decide +kernel)
set_option maxRecDepth 65536 in
theorem w_c45 : (Jvm.Cond.code ({ cls := "java/lang/StringBuilder", name := "append", desc := "(C)Ljava/lang/StringBuilder;" } : Jvm.MethodName) jdk_67_method_14_code (2 : Nat) (Option.some (Jvm.ClassFile.FieldType.object "java/lang/StringBuilder"))).before args0 about1 = true := code_word (m := ⟨17, 2⟩) (meth := k17m2) (c := k17c2) (by decide +kernel) rfl rfl rfl (by decide +kernel)
set_option maxRecDepth 65536 in
theorem w_c46 : (Jvm.Cond.code ({ cls := "java/lang/AbstractStringBuilder", name := "append", desc := "(C)Ljava/lang/AbstractStringBuilder;" } : Jvm.MethodName) jdk_68_method_31_code (2 : Nat) (Option.some (Jvm.ClassFile.FieldType.object "java/lang/AbstractStringBuilder"))).before args0 about1 = true := code_word (m := ⟨15, 6⟩) (meth := k15m6) (c := k15c6) (by decide +kernel) rfl rfl rfl (by decide +kernel)
set_option maxRecDepth 65536 in
theorem w_c47 : (Jvm.Cond.code ({ cls := "com/example/meerkat/meerkat/metrics/ExpositionLabelsPinLaw", name := "label", desc := "([CIZCICC)I" } : Jvm.MethodName) method_8_code (8 : Nat) (Option.some Jvm.ClassFile.FieldType.int)).before args0 about1 = true := code_word (m := ⟨1, 7⟩) (meth := k1m7) (c := k1c7) (by decide +kernel) rfl rfl rfl (by decide +kernel)
set_option maxRecDepth 65536 in
theorem w_c48 : (Jvm.Cond.code ({ cls := "com/example/meerkat/meerkat/metrics/ExpositionLabelsPinLaw", name := "put", desc := "([CIC)I" } : Jvm.MethodName) method_6_code (3 : Nat) (Option.some Jvm.ClassFile.FieldType.int)).before args0 about1 = true := code_word (m := ⟨1, 5⟩) (meth := k1m5) (c := k1c5) (by decide +kernel) rfl rfl rfl (by decide +kernel)
set_option maxRecDepth 65536 in
theorem w_c49 : (Jvm.Cond.code ({ cls := "java/lang/String", name := "charAt", desc := "(I)C" } : Jvm.MethodName) jdk_42_method_56_code (2 : Nat) (Option.some Jvm.ClassFile.FieldType.char)).before args0 about1 = true := code_word (m := ⟨20, 4⟩) (meth := k20m4) (c := k20c4) (by decide +kernel) rfl rfl rfl (by decide +kernel)
set_option maxRecDepth 65536 in
theorem w_c50 : (Jvm.Cond.code ({ cls := "java/lang/String", name := "isLatin1", desc := "()Z" } : Jvm.MethodName) jdk_42_method_154_code (1 : Nat) (Option.some Jvm.ClassFile.FieldType.boolean)).before args0 about1 = true := code_word (m := ⟨20, 11⟩) (meth := k20m11) (c := k20c11) (by decide +kernel) rfl rfl rfl (by decide +kernel)
set_option maxRecDepth 65536 in
theorem w_c51 : (Jvm.Cond.code ({ cls := "java/lang/StringLatin1", name := "charAt", desc := "([BI)C" } : Jvm.MethodName) jdk_43_method_2_code (2 : Nat) (Option.some Jvm.ClassFile.FieldType.char)).before args0 about1 = true := code_word (m := ⟨24, 1⟩) (meth := k24m1) (c := k24c1) (by decide +kernel) rfl rfl rfl (by decide +kernel)
set_option maxRecDepth 65536 in
theorem w_c52 : (Jvm.Cond.code ({ cls := "java/lang/String", name := "checkIndex", desc := "(II)V" } : Jvm.MethodName) jdk_42_method_155_code (2 : Nat) (Option.none : Option Jvm.ClassFile.FieldType)).before args0 about1 = true := code_word (m := ⟨20, 12⟩) (meth := k20m12) (c := k20c12) (by decide +kernel) rfl rfl rfl (by decide +kernel)
set_option maxRecDepth 65536 in
theorem w_c53 : (Jvm.Cond.code ({ cls := "java/lang/String", name := "<init>", desc := "([C)V" } : Jvm.MethodName) jdk_42_method_3_code (2 : Nat) (Option.none : Option Jvm.ClassFile.FieldType)).before args0 about1 = true := code_word (m := ⟨20, 1⟩) (meth := k20m1) (c := k20c1) (by decide +kernel) rfl rfl rfl (by decide +kernel)
set_option maxRecDepth 65536 in
theorem w_c54 : (Jvm.Cond.code ({ cls := "java/lang/String", name := "<init>", desc := "([CIILjava/lang/Void;)V" } : Jvm.MethodName) jdk_42_method_149_code (6 : Nat) (Option.none : Option Jvm.ClassFile.FieldType)).before args0 about1 = true := code_word (m := ⟨20, 7⟩) (meth := k20m7) (c := k20c7) (by decide +kernel) rfl rfl rfl (by decide +kernel)
set_option maxRecDepth 65536 in
theorem w_c55 : (Jvm.Cond.code ({ cls := "java/lang/StringUTF16", name := "compress", desc := "([CII)[B" } : Jvm.MethodName) jdk_52_method_16_code (6 : Nat) (Option.some (Jvm.ClassFile.FieldType.array Jvm.ClassFile.FieldType.byte))).before args0 about1 = true := code_word (m := ⟨27, 2⟩) (meth := k27m2) (c := k27c2) (by decide +kernel) rfl rfl rfl (by decide +kernel)
set_option maxRecDepth 65536 in
theorem w_c56 : (Jvm.Cond.code ({ cls := "java/lang/StringUTF16", name := "compress", desc := "([CI[BII)I" } : Jvm.MethodName) jdk_52_method_21_code (7 : Nat) (Option.some Jvm.ClassFile.FieldType.int)).before args0 about1 = true := code_word (m := ⟨27, 3⟩) (meth := k27m3) (c := k27c3) (by decide +kernel) rfl rfl rfl (by decide +kernel)
set_option maxRecDepth 65536 in
theorem w_c57 : (Jvm.Cond.code ({ cls := "java/lang/StringUTF16", name := "coderFromArrayLen", desc := "([BI)B" } : Jvm.MethodName) jdk_52_method_15_code (2 : Nat) (Option.some Jvm.ClassFile.FieldType.byte)).before args0 about1 = true := code_word (m := ⟨27, 1⟩) (meth := k27m1) (c := k27c1) (by decide +kernel) rfl rfl rfl (by decide +kernel)
set_option maxRecDepth 65536 in
theorem w_c58 : (Jvm.Cond.code ({ cls := "com/example/meerkat/meerkat/metrics/ExpositionLabelsPinLaw", name := "esc", desc := "([CIC)I" } : Jvm.MethodName) method_7_code (3 : Nat) (Option.some Jvm.ClassFile.FieldType.int)).before args0 about1 = true := code_word (m := ⟨1, 6⟩) (meth := k1m6) (c := k1c6) (by decide +kernel) rfl rfl rfl (by decide +kernel)
set_option maxRecDepth 65536 in
theorem w_c59 : (Jvm.Cond.code ({ cls := "java/lang/AbstractStringBuilder", name := "newCapacity", desc := "(I)I" } : Jvm.MethodName) jdk_68_method_10_code (6 : Nat) (Option.some Jvm.ClassFile.FieldType.int)).before args0 about1 = true := code_word (m := ⟨15, 4⟩) (meth := k15m4) (c := k15c4) (by decide +kernel) rfl rfl rfl (by decide +kernel)
set_option maxRecDepth 65536 in
theorem w_c60 : (Jvm.Cond.code ({ cls := "jdk/internal/util/ArraysSupport", name := "newLength", desc := "(III)I" } : Jvm.MethodName) jdk_48_method_27_code (4 : Nat) (Option.some Jvm.ClassFile.FieldType.int)).before args0 about1 = true := code_word (m := ⟨28, 1⟩) (meth := k28m1) (c := k28c1) (by decide +kernel) rfl rfl rfl (by decide +kernel)
set_option maxRecDepth 65536 in
theorem w_c61 : (Jvm.Cond.code ({ cls := "java/util/Arrays", name := "copyOf", desc := "([BI)[B" } : Jvm.MethodName) jdk_65_method_121_code (3 : Nat) (Option.some (Jvm.ClassFile.FieldType.array Jvm.ClassFile.FieldType.byte))).before args0 about1 = true := code_word (m := ⟨21, 1⟩) (meth := k21m1) (c := k21c1) (by decide +kernel) rfl rfl rfl (by decide +kernel)
def codes1 : List Jvm.Cond := [Jvm.Cond.code x code maxLocals ret, Jvm.Cond.code ({ cls := "com/example/meerkat/meerkat/metrics/ExpositionLabelsPinLaw", name := "ch", desc := "(II)C" } : Jvm.MethodName) method_4_code (5 : Nat) (Option.some Jvm.ClassFile.FieldType.char), Jvm.Cond.code ({ cls := "java/util/ArrayList", name := "<init>", desc := "()V" } : Jvm.MethodName) jdk_38_method_2_code (1 : Nat) (Option.none : Option Jvm.ClassFile.FieldType), Jvm.Cond.code ({ cls := "java/util/AbstractList", name := "<init>", desc := "()V" } : Jvm.MethodName) jdk_39_method_1_code (1 : Nat) (Option.none : Option Jvm.ClassFile.FieldType), Jvm.Cond.code ({ cls := "java/util/AbstractCollection", name := "<init>", desc := "()V" } : Jvm.MethodName) jdk_22_method_1_code (1 : Nat) (Option.none : Option Jvm.ClassFile.FieldType), Jvm.Cond.code ({ cls := "java/lang/Object", name := "<init>", desc := "()V" } : Jvm.MethodName) object_method_1_code (1 : Nat) (Option.none : Option Jvm.ClassFile.FieldType), Jvm.Cond.code ({ cls := "com/example/meerkat/meerkat/metrics/Exposition", name := "labels", desc := "(Ljava/util/List;Ljava/util/List;)Ljava/lang/String;" } : Jvm.MethodName) prog_10_method_5_code (4 : Nat) (Option.some (Jvm.ClassFile.FieldType.object "java/lang/String")), Jvm.Cond.code ({ cls := "java/lang/StringBuilder", name := "<init>", desc := "()V" } : Jvm.MethodName) jdk_67_method_1_code (1 : Nat) (Option.none : Option Jvm.ClassFile.FieldType), Jvm.Cond.code ({ cls := "java/lang/AbstractStringBuilder", name := "<init>", desc := "(I)V" } : Jvm.MethodName) jdk_68_method_2_code (2 : Nat) (Option.none : Option Jvm.ClassFile.FieldType), Jvm.Cond.code ({ cls := "java/util/ArrayList", name := "size", desc := "()I" } : Jvm.MethodName) jdk_38_method_8_code (1 : Nat) (Option.some Jvm.ClassFile.FieldType.int), Jvm.Cond.code ({ cls := "java/lang/StringBuilder", name := "toString", desc := "()Ljava/lang/String;" } : Jvm.MethodName) jdk_67_method_42_code (1 : Nat) (Option.some (Jvm.ClassFile.FieldType.object "java/lang/String")), Jvm.Cond.code ({ cls := "java/lang/String", name := "<init>", desc := "(Ljava/lang/StringBuilder;)V" } : Jvm.MethodName) jdk_42_method_53_code (2 : Nat) (Option.none : Option Jvm.ClassFile.FieldType), Jvm.Cond.code ({ cls := "java/lang/String", name := "<init>", desc := "(Ljava/lang/AbstractStringBuilder;Ljava/lang/Void;)V" } : Jvm.MethodName) jdk_42_method_150_code (5 : Nat) (Option.none : Option Jvm.ClassFile.FieldType), Jvm.Cond.code ({ cls := "java/lang/AbstractStringBuilder", name := "getValue", desc := "()[B" } : Jvm.MethodName) jdk_68_method_64_code (1 : Nat) (Option.some (Jvm.ClassFile.FieldType.array Jvm.ClassFile.FieldType.byte)), Jvm.Cond.code ({ cls := "java/lang/StringBuilder", name := "length", desc := "()I" } : Jvm.MethodName) jdk_67_method_93_code (1 : Nat) (Option.some Jvm.ClassFile.FieldType.int), Jvm.Cond.code ({ cls := "java/lang/AbstractStringBuilder", name := "length", desc := "()I" } : Jvm.MethodName) jdk_68_method_6_code (1 : Nat) (Option.some Jvm.ClassFile.FieldType.int), Jvm.Cond.code ({ cls := "java/lang/AbstractStringBuilder", name := "isLatin1", desc := "()Z" } : Jvm.MethodName) jdk_68_method_68_code (1 : Nat) (Option.some Jvm.ClassFile.FieldType.boolean), Jvm.Cond.code ({ cls := "java/util/Arrays", name := "copyOfRange", desc := "([BII)[B" } : Jvm.MethodName) jdk_65_method_132_code (3 : Nat) (Option.some (Jvm.ClassFile.FieldType.array Jvm.ClassFile.FieldType.byte)), Jvm.Cond.code ({ cls := "java/util/Arrays", name := "copyOfRangeByte", desc := "([BII)[B" } : Jvm.MethodName) jdk_65_method_133_code (5 : Nat) (Option.some (Jvm.ClassFile.FieldType.array Jvm.ClassFile.FieldType.byte)), Jvm.Cond.code ({ cls := "java/util/Arrays", name := "checkLength", desc := "(II)V" } : Jvm.MethodName) jdk_65_method_131_code (2 : Nat) (Option.none : Option Jvm.ClassFile.FieldType), Jvm.Cond.code ({ cls := "java/lang/Math", name := "min", desc := "(II)I" } : Jvm.MethodName) jdk_29_method_69_code (2 : Nat) (Option.some Jvm.ClassFile.FieldType.int), Jvm.Cond.code ({ cls := "java/lang/String", name := "length", desc := "()I" } : Jvm.MethodName) jdk_42_method_54_code (1 : Nat) (Option.some Jvm.ClassFile.FieldType.int), Jvm.Cond.code ({ cls := "java/lang/String", name := "coder", desc := "()B" } : Jvm.MethodName) jdk_42_method_152_code (1 : Nat) (Option.some Jvm.ClassFile.FieldType.byte), Jvm.Cond.code ({ cls := "com/example/meerkat/meerkat/metrics/ExpositionLabelsPinLaw", name := "at", desc := "(Ljava/lang/String;[CII)Z" } : Jvm.MethodName) method_3_code (4 : Nat) (Option.some Jvm.ClassFile.FieldType.boolean), Jvm.Cond.code ({ cls := "java/lang/String", name := "valueOf", desc := "(C)Ljava/lang/String;" } : Jvm.MethodName) jdk_42_method_139_code (1 : Nat) (Option.some (Jvm.ClassFile.FieldType.object "java/lang/String")), Jvm.Cond.code ({ cls := "java/lang/StringLatin1", name := "canEncode", desc := "(C)Z" } : Jvm.MethodName) jdk_43_method_3_code (1 : Nat) (Option.some Jvm.ClassFile.FieldType.boolean), Jvm.Cond.code ({ cls := "java/lang/StringLatin1", name := "toBytes", desc := "(C)[B" } : Jvm.MethodName) jdk_43_method_46_code (1 : Nat) (Option.some (Jvm.ClassFile.FieldType.array Jvm.ClassFile.FieldType.byte)), Jvm.Cond.code ({ cls := "java/lang/String", name := "<init>", desc := "([BB)V" } : Jvm.MethodName) jdk_42_method_151_code (3 : Nat) (Option.none : Option Jvm.ClassFile.FieldType), Jvm.Cond.code ({ cls := "java/util/ArrayList", name := "add", desc := "(Ljava/lang/Object;)Z" } : Jvm.MethodName) jdk_38_method_25_code (2 : Nat) (Option.some Jvm.ClassFile.FieldType.boolean), Jvm.Cond.code ({ cls := "java/util/ArrayList", name := "add", desc := "(Ljava/lang/Object;[Ljava/lang/Object;I)V" } : Jvm.MethodName) jdk_38_method_24_code (4 : Nat) (Option.none : Option Jvm.ClassFile.FieldType), Jvm.Cond.code ({ cls := "java/util/ArrayList", name := "grow", desc := "()[Ljava/lang/Object;" } : Jvm.MethodName) jdk_38_method_7_code (1 : Nat) (Option.some (Jvm.ClassFile.FieldType.array (Jvm.ClassFile.FieldType.object "java/lang/Object"))), Jvm.Cond.code ({ cls := "java/util/ArrayList", name := "grow", desc := "(I)[Ljava/lang/Object;" } : Jvm.MethodName) jdk_38_method_6_code (4 : Nat) (Option.some (Jvm.ClassFile.FieldType.array (Jvm.ClassFile.FieldType.object "java/lang/Object"))), Jvm.Cond.code ({ cls := "java/lang/Math", name := "max", desc := "(II)I" } : Jvm.MethodName) jdk_29_method_65_code (2 : Nat) (Option.some Jvm.ClassFile.FieldType.int), Jvm.Cond.code ({ cls := "com/example/meerkat/meerkat/metrics/ExpositionLabelsPinLaw", name := "value", desc := "(ICC)Ljava/lang/String;" } : Jvm.MethodName) method_5_code (3 : Nat) (Option.some (Jvm.ClassFile.FieldType.object "java/lang/String")), Jvm.Cond.code ({ cls := "java/lang/StringBuilder", name := "append", desc := "(Ljava/lang/String;)Ljava/lang/StringBuilder;" } : Jvm.MethodName) jdk_67_method_7_code (2 : Nat) (Option.some (Jvm.ClassFile.FieldType.object "java/lang/StringBuilder")), Jvm.Cond.code ({ cls := "java/lang/AbstractStringBuilder", name := "append", desc := "(Ljava/lang/String;)Ljava/lang/AbstractStringBuilder;" } : Jvm.MethodName) jdk_68_method_22_code (3 : Nat) (Option.some (Jvm.ClassFile.FieldType.object "java/lang/AbstractStringBuilder")), Jvm.Cond.code ({ cls := "java/lang/AbstractStringBuilder", name := "ensureCapacityInternal", desc := "(I)V" } : Jvm.MethodName) jdk_68_method_9_code (3 : Nat) (Option.none : Option Jvm.ClassFile.FieldType), Jvm.Cond.code ({ cls := "java/lang/AbstractStringBuilder", name := "putStringAt", desc := "(ILjava/lang/String;)V" } : Jvm.MethodName) jdk_68_method_73_code (3 : Nat) (Option.none : Option Jvm.ClassFile.FieldType), Jvm.Cond.code ({ cls := "java/lang/AbstractStringBuilder", name := "inflateIfNeededFor", desc := "(Ljava/lang/String;)V" } : Jvm.MethodName) jdk_68_method_71_code (2 : Nat) (Option.none : Option Jvm.ClassFile.FieldType), Jvm.Cond.code ({ cls := "java/lang/String", name := "getBytes", desc := "([BIB)V" } : Jvm.MethodName) jdk_42_method_147_code (4 : Nat) (Option.none : Option Jvm.ClassFile.FieldType), Jvm.Cond.code ({ cls := "java/util/ArrayList", name := "get", desc := "(I)Ljava/lang/Object;" } : Jvm.MethodName) jdk_38_method_20_code (2 : Nat) (Option.some (Jvm.ClassFile.FieldType.object "java/lang/Object")), Jvm.Cond.code ({ cls := "java/util/Objects", name := "checkIndex", desc := "(II)I" } : Jvm.MethodName) jdk_31_method_17_code (2 : Nat) (Option.some Jvm.ClassFile.FieldType.int), Jvm.Cond.code ({ cls := "jdk/internal/util/Preconditions", name := "checkIndex", desc := "(IILjava/util/function/BiFunction;)I" } : Jvm.MethodName) jdk_41_method_11_code (3 : Nat) (Option.some Jvm.ClassFile.FieldType.int), Jvm.Cond.code ({ cls := "java/util/ArrayList", name := "elementData", desc := "(I)Ljava/lang/Object;" } : Jvm.MethodName) jdk_38_method_18_code (2 : Nat) (Option.some (Jvm.ClassFile.FieldType.object "java/lang/Object")), Jvm.Cond.code ({ cls := "com/example/meerkat/meerkat/metrics/Exposition", name := "escape", desc := "(Ljava/lang/String;ZLjava/lang/StringBuilder;)V" } : Jvm.MethodName) prog_10_method_8_code (5 : Nat) (Option.none : Option Jvm.ClassFile.FieldType), Jvm.Cond.code ({ cls := "java/lang/StringBuilder", name := "append", desc := "(C)Ljava/lang/StringBuilder;" } : Jvm.MethodName) jdk_67_method_14_code (2 : Nat) (Option.some (Jvm.ClassFile.FieldType.object "java/lang/StringBuilder")), Jvm.Cond.code ({ cls := "java/lang/AbstractStringBuilder", name := "append", desc := "(C)Ljava/lang/AbstractStringBuilder;" } : Jvm.MethodName) jdk_68_method_31_code (2 : Nat) (Option.some (Jvm.ClassFile.FieldType.object "java/lang/AbstractStringBuilder")), Jvm.Cond.code ({ cls := "com/example/meerkat/meerkat/metrics/ExpositionLabelsPinLaw", name := "label", desc := "([CIZCICC)I" } : Jvm.MethodName) method_8_code (8 : Nat) (Option.some Jvm.ClassFile.FieldType.int), Jvm.Cond.code ({ cls := "com/example/meerkat/meerkat/metrics/ExpositionLabelsPinLaw", name := "put", desc := "([CIC)I" } : Jvm.MethodName) method_6_code (3 : Nat) (Option.some Jvm.ClassFile.FieldType.int), Jvm.Cond.code ({ cls := "java/lang/String", name := "charAt", desc := "(I)C" } : Jvm.MethodName) jdk_42_method_56_code (2 : Nat) (Option.some Jvm.ClassFile.FieldType.char), Jvm.Cond.code ({ cls := "java/lang/String", name := "isLatin1", desc := "()Z" } : Jvm.MethodName) jdk_42_method_154_code (1 : Nat) (Option.some Jvm.ClassFile.FieldType.boolean), Jvm.Cond.code ({ cls := "java/lang/StringLatin1", name := "charAt", desc := "([BI)C" } : Jvm.MethodName) jdk_43_method_2_code (2 : Nat) (Option.some Jvm.ClassFile.FieldType.char), Jvm.Cond.code ({ cls := "java/lang/String", name := "checkIndex", desc := "(II)V" } : Jvm.MethodName) jdk_42_method_155_code (2 : Nat) (Option.none : Option Jvm.ClassFile.FieldType), Jvm.Cond.code ({ cls := "java/lang/String", name := "<init>", desc := "([C)V" } : Jvm.MethodName) jdk_42_method_3_code (2 : Nat) (Option.none : Option Jvm.ClassFile.FieldType), Jvm.Cond.code ({ cls := "java/lang/String", name := "<init>", desc := "([CIILjava/lang/Void;)V" } : Jvm.MethodName) jdk_42_method_149_code (6 : Nat) (Option.none : Option Jvm.ClassFile.FieldType), Jvm.Cond.code ({ cls := "java/lang/StringUTF16", name := "compress", desc := "([CII)[B" } : Jvm.MethodName) jdk_52_method_16_code (6 : Nat) (Option.some (Jvm.ClassFile.FieldType.array Jvm.ClassFile.FieldType.byte)), Jvm.Cond.code ({ cls := "java/lang/StringUTF16", name := "compress", desc := "([CI[BII)I" } : Jvm.MethodName) jdk_52_method_21_code (7 : Nat) (Option.some Jvm.ClassFile.FieldType.int), Jvm.Cond.code ({ cls := "java/lang/StringUTF16", name := "coderFromArrayLen", desc := "([BI)B" } : Jvm.MethodName) jdk_52_method_15_code (2 : Nat) (Option.some Jvm.ClassFile.FieldType.byte), Jvm.Cond.code ({ cls := "com/example/meerkat/meerkat/metrics/ExpositionLabelsPinLaw", name := "esc", desc := "([CIC)I" } : Jvm.MethodName) method_7_code (3 : Nat) (Option.some Jvm.ClassFile.FieldType.int), Jvm.Cond.code ({ cls := "java/lang/AbstractStringBuilder", name := "newCapacity", desc := "(I)I" } : Jvm.MethodName) jdk_68_method_10_code (6 : Nat) (Option.some Jvm.ClassFile.FieldType.int), Jvm.Cond.code ({ cls := "jdk/internal/util/ArraysSupport", name := "newLength", desc := "(III)I" } : Jvm.MethodName) jdk_48_method_27_code (4 : Nat) (Option.some Jvm.ClassFile.FieldType.int), Jvm.Cond.code ({ cls := "java/util/Arrays", name := "copyOf", desc := "([BI)[B" } : Jvm.MethodName) jdk_65_method_121_code (3 : Nat) (Option.some (Jvm.ClassFile.FieldType.array Jvm.ClassFile.FieldType.byte))]
set_option maxRecDepth 65536 in
theorem codes_eq : words1.filter isCode = codes1 := rfl
theorem w_codes : ∀ c ∈ words1.filter isCode, c.before args0 about1 = true := by
  rw [codes_eq]
  intro c hc
  simp only [codes1, List.mem_cons, List.not_mem_nil, or_false] at hc
  rcases hc with rfl | rfl | rfl | rfl | rfl | rfl | rfl | rfl | rfl | rfl | rfl | rfl | rfl | rfl | rfl | rfl | rfl | rfl | rfl | rfl | rfl | rfl | rfl | rfl | rfl | rfl | rfl | rfl | rfl | rfl | rfl | rfl | rfl | rfl | rfl | rfl | rfl | rfl | rfl | rfl | rfl | rfl | rfl | rfl | rfl | rfl | rfl | rfl | rfl | rfl | rfl | rfl | rfl | rfl | rfl | rfl | rfl | rfl | rfl | rfl | rfl | rfl
  · exact w_c0
  · exact w_c1
  · exact w_c2
  · exact w_c3
  · exact w_c4
  · exact w_c5
  · exact w_c6
  · exact w_c7
  · exact w_c8
  · exact w_c9
  · exact w_c10
  · exact w_c11
  · exact w_c12
  · exact w_c13
  · exact w_c14
  · exact w_c15
  · exact w_c16
  · exact w_c17
  · exact w_c18
  · exact w_c19
  · exact w_c20
  · exact w_c21
  · exact w_c22
  · exact w_c23
  · exact w_c24
  · exact w_c25
  · exact w_c26
  · exact w_c27
  · exact w_c28
  · exact w_c29
  · exact w_c30
  · exact w_c31
  · exact w_c32
  · exact w_c33
  · exact w_c34
  · exact w_c35
  · exact w_c36
  · exact w_c37
  · exact w_c38
  · exact w_c39
  · exact w_c40
  · exact w_c41
  · exact w_c42
  · exact w_c43
  · exact w_c44
  · exact w_c45
  · exact w_c46
  · exact w_c47
  · exact w_c48
  · exact w_c49
  · exact w_c50
  · exact w_c51
  · exact w_c52
  · exact w_c53
  · exact w_c54
  · exact w_c55
  · exact w_c56
  · exact w_c57
  · exact w_c58
  · exact w_c59
  · exact w_c60
  · exact w_c61
set_option maxRecDepth 65536 in
theorem w_t1 : (words1.take 24).all (fun c => isCode c || c.before args0 about1) = true := by decide +kernel
set_option maxRecDepth 65536 in
theorem w_t2 : ((words1.drop 24).take 24).all (fun c => isCode c || c.before args0 about1) = true := by decide +kernel
set_option maxRecDepth 65536 in
theorem w_t3 : (((words1.drop 24).drop 24).take 24).all (fun c => isCode c || c.before args0 about1) = true := by decide +kernel
set_option maxRecDepth 65536 in
theorem w_t4 : ((((words1.drop 24).drop 24).drop 24).take 24).all (fun c => isCode c || c.before args0 about1) = true := by decide +kernel
set_option maxRecDepth 65536 in
theorem w_t5 : (((((words1.drop 24).drop 24).drop 24).drop 24).take 24).all (fun c => isCode c || c.before args0 about1) = true := by decide +kernel
set_option maxRecDepth 65536 in
theorem w_t6 : ((((((words1.drop 24).drop 24).drop 24).drop 24).drop 24).take 24).all (fun c => isCode c || c.before args0 about1) = true := by decide +kernel
set_option maxRecDepth 65536 in
theorem w_t7 : (((((((words1.drop 24).drop 24).drop 24).drop 24).drop 24).drop 24).take 24).all (fun c => isCode c || c.before args0 about1) = true := by decide +kernel
set_option maxRecDepth 65536 in
theorem w_t8 : ((((((((words1.drop 24).drop 24).drop 24).drop 24).drop 24).drop 24).drop 24).take 24).all (fun c => isCode c || c.before args0 about1) = true := by decide +kernel
set_option maxRecDepth 65536 in
theorem w_t9 : (((((((((words1.drop 24).drop 24).drop 24).drop 24).drop 24).drop 24).drop 24).drop 24).take 24).all (fun c => isCode c || c.before args0 about1) = true := by decide +kernel
set_option maxRecDepth 65536 in
theorem w_t10 : ((((((((((words1.drop 24).drop 24).drop 24).drop 24).drop 24).drop 24).drop 24).drop 24).drop 24).take 24).all (fun c => isCode c || c.before args0 about1) = true := by decide +kernel
set_option maxRecDepth 65536 in
theorem w_t11 : (((((((((((words1.drop 24).drop 24).drop 24).drop 24).drop 24).drop 24).drop 24).drop 24).drop 24).drop 24).take 24).all (fun c => isCode c || c.before args0 about1) = true := by decide +kernel
set_option maxRecDepth 65536 in
theorem w_t12 : ((((((((((((words1.drop 24).drop 24).drop 24).drop 24).drop 24).drop 24).drop 24).drop 24).drop 24).drop 24).drop 24).take 24).all (fun c => isCode c || c.before args0 about1) = true := by decide +kernel
set_option maxRecDepth 65536 in
theorem w_t13 : (((((((((((((words1.drop 24).drop 24).drop 24).drop 24).drop 24).drop 24).drop 24).drop 24).drop 24).drop 24).drop 24).drop 24).take 24).all (fun c => isCode c || c.before args0 about1) = true := by decide +kernel
set_option maxRecDepth 65536 in
theorem w_t14 : (((((((((((((words1.drop 24).drop 24).drop 24).drop 24).drop 24).drop 24).drop 24).drop 24).drop 24).drop 24).drop 24).drop 24).drop 24).all (fun c => isCode c || c.before args0 about1) = true := by decide +kernel
theorem w_tables : (allAtoms (Jvm.Cond.code x code maxLocals ret :: tables_1)).before args0 about1 = true := by
  rw [allAtoms_all]
  show words1.all (fun c => c.before args0 about1) = true
  refine all_split ?_ w_codes
  rw [← List.take_append_drop 24 words1, List.all_append, w_t1, ← List.take_append_drop 24 (words1.drop 24), List.all_append, w_t2, ← List.take_append_drop 24 ((words1.drop 24).drop 24), List.all_append, w_t3, ← List.take_append_drop 24 (((words1.drop 24).drop 24).drop 24), List.all_append, w_t4, ← List.take_append_drop 24 ((((words1.drop 24).drop 24).drop 24).drop 24), List.all_append, w_t5, ← List.take_append_drop 24 (((((words1.drop 24).drop 24).drop 24).drop 24).drop 24), List.all_append, w_t6, ← List.take_append_drop 24 ((((((words1.drop 24).drop 24).drop 24).drop 24).drop 24).drop 24), List.all_append, w_t7, ← List.take_append_drop 24 (((((((words1.drop 24).drop 24).drop 24).drop 24).drop 24).drop 24).drop 24), List.all_append, w_t8, ← List.take_append_drop 24 ((((((((words1.drop 24).drop 24).drop 24).drop 24).drop 24).drop 24).drop 24).drop 24), List.all_append, w_t9, ← List.take_append_drop 24 (((((((((words1.drop 24).drop 24).drop 24).drop 24).drop 24).drop 24).drop 24).drop 24).drop 24), List.all_append, w_t10, ← List.take_append_drop 24 ((((((((((words1.drop 24).drop 24).drop 24).drop 24).drop 24).drop 24).drop 24).drop 24).drop 24).drop 24), List.all_append, w_t11, ← List.take_append_drop 24 (((((((((((words1.drop 24).drop 24).drop 24).drop 24).drop 24).drop 24).drop 24).drop 24).drop 24).drop 24).drop 24), List.all_append, w_t12, ← List.take_append_drop 24 ((((((((((((words1.drop 24).drop 24).drop 24).drop 24).drop 24).drop 24).drop 24).drop 24).drop 24).drop 24).drop 24).drop 24), List.all_append, w_t13, w_t14]
  rfl
set_option maxRecDepth 65536 in
theorem w_rest : rest_1_c.before args0 about1 = true := by decide +kernel
set_option maxRecDepth 65536 in
theorem w_case : (Jvm.Cond.and given_1 narrow_1).before args0 about1 = true := by decide +kernel
set_option maxRecDepth 65536 in
theorem w_consts : constsHeld consts_1 about1 := Jvm.Lit.constsHeldB_iff.mp (by decide +kernel)
theorem w_applies : (headSpec (Jvm.Cond.code x code maxLocals ret :: tables_1) room_1).applies x e0.platform about1 = true :=
  (Spec.applies_iff w_frames).mpr ⟨w_running, w_runnable, w_alone, w_named, w_hears, w_ripe, w_room, w_tables⟩
theorem atStart : AtStart classFile x code maxLocals ret World_1 tables_1 room_1 Calls_1 rest_1 Pre_1 launch0 p0 e0 about1 theMethod args0 below0 :=
  ⟨lists_1, trivial, launch0.admits_env _ _ _, launch0.least_env, fairChoices_fair.cas, fairChoices_fair.clock, w_frames, w_args, w_heap, w_applies, ⟨w_consts, trivial⟩, w_rest, w_case⟩
end start1
theorem witness_1 : WitnessClaimed_1 := ⟨start1.p0, start1.e0, start1.about1, start1.theMethod, start1.args0, start1.below0, start1.atStart⟩
end Jvm.Pilot.@@N@@
