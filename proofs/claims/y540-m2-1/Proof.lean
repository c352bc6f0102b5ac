import JvmDerived
import JvmDerived.Pilot.@@N@@Statement
import JvmDerived.Pilot.@@N@@Code
set_option linter.unusedVariables false
set_option linter.unusedSimpArgs false
namespace Jvm.Pilot.@@N@@.W
open Jvm Jvm.ClassFile Sem Op Lib Jvm.Free Jvm.Stand Jvm.LawKit Jvm.RoadKit
/-! own kit: a body's walk in one pass, backwards from its end ('Gl': from here the body comes to its end and there P holds) -/
section Walk
variable {p : Program} {l : Launch} {e : Env} {R : Room} {s : State} {m : MethodId} {args : Array Value} {below : List Frame} {meth : Method} {c : Code} {T T' : State} {locs : List Loc} {cells slots : Nat} {P : Option Value → Heap → List Loc → Prop} {C N : Nat} {Ls : Array Slot} {S : List Value} {pc pc' pc'' : Nat} {g : JFrame}
def Gl (p : Program) (e : Env) (below : List Frame) (s : State) (P : Option Value → Heap → List Loc → Prop) (C N : Nat) (T : State) (g : JFrame) : Prop :=
  ∃ (s₂ : State) (o : Outcome), Steps p.tables e below (T.setTop g) s₂ ∧ s₂.status = .running ∧ Ended s₂ below o ∧ ∃ v L, o = .returned v ∧ P v s₂.heap L ∧ FrameEnd s o s₂ L C N
theorem s1 (g' : JFrame) (h : ∀ t, Steps p.tables e below (T.setTop g') t → Steps p.tables e below (T.setTop g) t) (K : Gl p e below s P C N T g') : Gl p e below s P C N T g := by
  obtain ⟨s₂, o, h1, h2⟩ := K; exact ⟨s₂, o, h _ h1, h2⟩
theorem s2 (g' : JFrame) (h : ∀ t, Steps p.tables e below (T'.setTop g') t → Steps p.tables e below (T.setTop g) t) (K : Gl p e below s P C N T' g') : Gl p e below s P C N T g := by
  obtain ⟨s₂, o, h1, h2⟩ := K; exact ⟨s₂, o, h _ h1, h2⟩
theorem s3 (g' : JFrame) (h : Steps p.tables e below (T.setTop g) (T'.setTop g')) (K : Gl p e below s P C N T' g') : Gl p e below s P C N T g := by
  obtain ⟨s₂, o, h1, h2⟩ := K; exact ⟨s₂, o, h.trans h1, h2⟩
theorem cast {g' : JFrame} (q : g = g') (K : Gl p e below s P C N T g') : Gl p e below s P C N T g := q ▸ K
theorem fin (X : Stand p l e R s m args below meth c T locs cells slots) {v : Option Value} (hv : meth.sig.returnType = none → v = none) (hlk : meth.locks = false)
    (hs : ∀ fs, (∀ (f : JFrame) (acts : List Action), f.method = m → f.locked = none → f.entered = [] → (doReturn e (T.setTop f) acts v).1 = T.setFrames fs) → Steps p.tables e below (T.setTop g) (T.setFrames fs))
    (hP : P v T.heap locs) (hC : cells ≤ C) (hN : slots ≤ N) : Gl p e below s P C N T g := by
  obtain ⟨fs, hr, hrun, hended, hW, hsame⟩ := X.leave hv hlk
  exact ⟨_, _, hs fs hr, hrun, hended, _, _, rfl, hP, ⟨_, rfl⟩, hW, hsame.mono hC hN⟩
theorem retZ (X : Stand p l e R s m args below meth c T locs cells slots) (hx : p.tables.exec = Jvm.exec) (hlk : meth.locks = false) {z z' : Int32} {t : FieldType} (hret : meth.sig.returnType = some t) (ht : t = .boolean ∨ t = .byte ∨ t = .char ∨ t = .short)
    (hd : decode c.code pc = .ok (.ireturn, 1)) (hz : nar t z = z') (hP : P (some (.int z')) T.heap locs) (hC : cells ≤ C) (hN : slots ≤ N) : Gl p e below s P C N T (mkF m pc Ls (.int z :: S)) :=
  fin X (v := some (.int z')) (fun h => by rw [hret] at h; cases h) hlk (fun fs hr => by subst hz; exact RoadKit.retN X hx hret ht hd hr) hP hC hN
theorem retI (X : Stand p l e R s m args below meth c T locs cells slots) (hx : p.tables.exec = Jvm.exec) (hlk : meth.locks = false) {z : Int32} (hret : meth.sig.returnType = some .int)
    (hd : decode c.code pc = .ok (.ireturn, 1)) (hP : P (some (.int z)) T.heap locs) (hC : cells ≤ C) (hN : slots ≤ N) : Gl p e below s P C N T (mkF m pc Ls (.int z :: S)) :=
  fin X (v := some (.int z)) (fun h => by rw [hret] at h; cases h) hlk (fun fs hr => retOut X hx hret rfl (Or.inl ⟨rfl, Or.inl rfl, _, rfl⟩) hd hr) hP hC hN
theorem retL (X : Stand p l e R s m args below meth c T locs cells slots) (hx : p.tables.exec = Jvm.exec) (hlk : meth.locks = false) {z : Int64} (hret : meth.sig.returnType = some .long)
    (hd : decode c.code pc = .ok (.lreturn, 1)) (hP : P (some (.long z)) T.heap locs) (hC : cells ≤ C) (hN : slots ≤ N) : Gl p e below s P C N T (mkF m pc Ls (.long z :: S)) :=
  fin X (v := some (.long z)) (fun h => by rw [hret] at h; cases h) hlk (fun fs hr => retOut X hx hret rfl (Or.inr (Or.inl ⟨rfl, rfl, _, rfl⟩)) hd hr) hP hC hN
theorem retA (X : Stand p l e R s m args below meth c T locs cells slots) (hx : p.tables.exec = Jvm.exec) (hlk : meth.locks = false) {w : Value} {t : FieldType} (hret : meth.sig.returnType = some t) (ht : t.isReference = true) (hw : w.isRef = true) (hn : narrow t w = w)
    (hd : decode c.code pc = .ok (.areturn, 1)) (hP : P (some w) T.heap locs) (hC : cells ≤ C) (hN : slots ≤ N) : Gl p e below s P C N T (mkF m pc Ls (w :: S)) :=
  fin X (v := some w) (fun h => by rw [hret] at h; cases h) hlk (fun fs hr => retOut X hx hret hn (Or.inr (Or.inr (Or.inr (Or.inr ⟨rfl, ht, hw⟩)))) hd hr) hP hC hN
theorem ret0 (X : Stand p l e R s m args below meth c T locs cells slots) (hx : p.tables.exec = Jvm.exec) (hlk : meth.locks = false) (hret : meth.sig.returnType = none)
    (hd : decode c.code pc = .ok (.return_, 1)) (hP : P none T.heap locs) (hC : cells ≤ C) (hN : slots ≤ N) : Gl p e below s P C N T (mkF m pc Ls []) :=
  fin X (v := none) (fun _ => rfl) hlk (fun fs hr => X.returnOut hx hret hd hr) hP hC hN
/-! the branches -/
def cY : ClassFile.Cond → Int32 → Int32 → Prop
  | .eq, x, y => x = y
  | .ne, x, y => ¬ x = y
  | .lt, x, y => x < y
  | .ge, x, y => ¬ x < y
  | .gt, x, y => y < x
  | .le, x, y => ¬ y < x
def cN : ClassFile.Cond → Int32 → Int32 → Prop
  | .eq, x, y => ¬ x = y
  | .ne, x, y => x = y
  | .lt, x, y => ¬ x < y
  | .ge, x, y => x < y
  | .gt, x, y => ¬ y < x
  | .le, x, y => y < x
theorem cOr (cd : ClassFile.Cond) (x y : Int32) : (cY cd x y ∧ if_icmp.holds cd x y = true) ∨ (cN cd x y ∧ if_icmp.holds cd x y = false) := by
  cases cd with
  | eq => by_cases h : x = y; exact Or.inl ⟨h, (teq h).1⟩; exact Or.inr ⟨h, (feq h).1⟩
  | ne => by_cases h : x = y; exact Or.inr ⟨h, (teq h).2⟩; exact Or.inl ⟨h, (feq h).2⟩
  | lt => by_cases h : x < y; exact Or.inl ⟨h, (tlt h).1⟩; exact Or.inr ⟨h, (flt h).1⟩
  | ge => by_cases h : x < y; exact Or.inr ⟨h, (tlt h).2.1⟩; exact Or.inl ⟨h, (flt h).2.1⟩
  | gt => by_cases h : y < x; exact Or.inl ⟨h, (tlt h).2.2.1⟩; exact Or.inr ⟨h, (flt h).2.2.1⟩
  | le => by_cases h : y < x; exact Or.inr ⟨h, (tlt h).2.2.2⟩; exact Or.inl ⟨h, (flt h).2.2.2⟩
def lY : ClassFile.Cond → Int64 → Int64 → Prop
  | .eq, x, y => x = y
  | .ne, x, y => ¬ x = y
  | .lt, x, y => x < y
  | .ge, x, y => ¬ x < y
  | .gt, x, y => y < x
  | .le, x, y => ¬ y < x
def lN : ClassFile.Cond → Int64 → Int64 → Prop
  | .eq, x, y => ¬ x = y
  | .ne, x, y => x = y
  | .lt, x, y => ¬ x < y
  | .ge, x, y => x < y
  | .gt, x, y => ¬ y < x
  | .le, x, y => y < x
theorem lYc {cd : ClassFile.Cond} {x y : Int64} (h : cY cd (lcmpW x y) 0) : lY cd x y := by
  rw [lcW] at h
  cases cd with
  | eq => exact (lc_eq x y).mp h
  | ne => exact fun q => h ((lc_eq x y).mpr q)
  | lt => exact (lc_lt x y).mp h
  | ge => exact fun q => h ((lc_lt x y).mpr q)
  | gt => exact (lc_gt x y).mp h
  | le => exact fun q => h ((lc_gt x y).mpr q)
theorem lNc {cd : ClassFile.Cond} {x y : Int64} (h : cN cd (lcmpW x y) 0) : lN cd x y := by
  rw [lcW] at h
  cases cd with
  | eq => exact fun q => h ((lc_eq x y).mpr q)
  | ne => exact (lc_eq x y).mp h
  | lt => exact fun q => h ((lc_lt x y).mpr q)
  | ge => exact (lc_lt x y).mp h
  | gt => exact fun q => h ((lc_gt x y).mpr q)
  | le => exact (lc_gt x y).mp h
theorem icmp (X : Stand p l e R s m args below meth c T locs cells slots) (hx : p.tables.exec = Jvm.exec) {cd : ClassFile.Cond} {x y : Int32} {o : Int} (hd : decode c.code pc = .ok (.if_icmp cd o, 3)) (ho : 0 ≤ (pc : Int) + o) (hp : ((pc : Int) + o).toNat = pc') (hq : pc + 3 = pc'')
    (ky : cY cd x y → Gl p e below s P C N T (mkF m pc' Ls S)) (kn : cN cd x y → Gl p e below s P C N T (mkF m pc'' Ls S)) : Gl p e below s P C N T (mkF m pc Ls (.int y :: .int x :: S)) := by
  subst hq
  rcases cOr cd x y with ⟨h1, h2⟩ | ⟨h1, h2⟩
  · exact s1 _ (fun t k => XS.icmpYes X.here hx rfl (pc0 := pc) (pc' := pc') rfl hd rfl h2 ho hp k) (ky h1)
  · exact s1 _ (fun t k => XS.icmpNo X.here hx rfl hd rfl h2 k) (kn h1)
theorem ifc (X : Stand p l e R s m args below meth c T locs cells slots) (hx : p.tables.exec = Jvm.exec) {cd : ClassFile.Cond} {x : Int32} {o : Int} (hd : decode c.code pc = .ok (.ifCond cd o, 3)) (ho : 0 ≤ (pc : Int) + o) (hp : ((pc : Int) + o).toNat = pc') (hq : pc + 3 = pc'')
    (ky : cY cd x 0 → Gl p e below s P C N T (mkF m pc' Ls S)) (kn : cN cd x 0 → Gl p e below s P C N T (mkF m pc'' Ls S)) : Gl p e below s P C N T (mkF m pc Ls (.int x :: S)) := by
  subst hq
  rcases cOr cd x 0 with ⟨h1, h2⟩ | ⟨h1, h2⟩
  · exact s1 _ (fun t k => XS.ifYes X.here hx rfl (pc0 := pc) (pc' := pc') rfl hd rfl ((if0 _ _).trans h2) ho hp k) (ky h1)
  · exact s1 _ (fun t k => XS.ifNo X.here hx rfl hd rfl ((if0 _ _).trans h2) k) (kn h1)
theorem lif (X : Stand p l e R s m args below meth c T locs cells slots) (hx : p.tables.exec = Jvm.exec) {cd : ClassFile.Cond} {x y : Int64} {o : Int} (hd1 : decode c.code pc = .ok (.lcmp, 1)) {pc1 : Nat} (h1 : pc + 1 = pc1) (hd : decode c.code pc1 = .ok (.ifCond cd o, 3)) (ho : 0 ≤ (pc1 : Int) + o) (hp : ((pc1 : Int) + o).toNat = pc') (hq : pc1 + 3 = pc'')
    (ky : lY cd x y → Gl p e below s P C N T (mkF m pc' Ls S)) (kn : lN cd x y → Gl p e below s P C N T (mkF m pc'' Ls S)) : Gl p e below s P C N T (mkF m pc Ls (.long y :: .long x :: S)) := by
  subst h1
  exact s1 (mkF m (pc + 1) Ls (.int (lcmpW x y) :: S)) (fun t k => XS.lcmp X.here hx rfl hd1 rfl k) (ifc X hx hd ho hp hq (fun h => ky (lYc h)) (fun h => kn (lNc h)))
end Walk
/-! arrays of ints and of longs, by what each place holds -/
section Arrays
variable {Z : State} {h h' : Heap} {a b : Addr} {ty : FieldType} {n : Nat} {f : Nat → Int32} {q : Nat → Int64}
def up {α : Type} (f : Nat → α) (j : Nat) (v : α) : Nat → α := fun k => if k = j then v else f k
theorem up_same {α : Type} (f : Nat → α) (j : Nat) (v : α) : up f j v j = v := if_pos rfl
theorem up_other {α : Type} (f : Nat → α) {j k : Nat} (v : α) (h : ¬ k = j) : up f j v k = f k := if_neg h
def AI (Z : State) (h : Heap) (a : Addr) (ty : FieldType) (n : Nat) (f : Nat → Int32) : Prop := ∃ c : Cell, Arr Z h a c ty ∧ c.slots.size = n ∧ ∀ k, k < n → c.slots[k]? = some (.int (f k))
def AJ (Z : State) (h : Heap) (a : Addr) (n : Nat) (f : Nat → Int64) : Prop := ∃ c : Cell, Arr Z h a c .long ∧ c.slots.size = n ∧ ∀ k, k < n → c.slots[k]? = some (.long (f k))
theorem AI.lt (F : AI Z h a ty n f) : a < h.size := by obtain ⟨c, A, -⟩ := F; exact A.lt
theorem AJ.lt (F : AJ Z h a n q) : a < h.size := by obtain ⟨c, A, -⟩ := F; exact A.lt
theorem AI.ext (F : AI Z h a ty n f) (E : Ext h h') : AI Z h' a ty n f := by obtain ⟨c, A, r⟩ := F; exact ⟨c, A.ext E, r⟩
theorem AJ.ext (F : AJ Z h a n q) (E : Ext h h') : AJ Z h' a n q := by obtain ⟨c, A, r⟩ := F; exact ⟨c, A.ext E, r⟩
theorem AI.other {sl : Nat} {v : Value} (F : AI Z h b ty n f) (W : Wr h h' a sl v) (e : b ≠ a) : AI Z h' b ty n f := by obtain ⟨c, A, r⟩ := F; exact ⟨c, A.other W e, r⟩
theorem AJ.other {sl : Nat} {v : Value} (F : AJ Z h b n q) (W : Wr h h' a sl v) (e : b ≠ a) : AJ Z h' b n q := by obtain ⟨c, A, r⟩ := F; exact ⟨c, A.other W e, r⟩
theorem AI.keep {ws : List Addr} (F : AI Z h a ty n f) (K : Keep h h' ws) (e : a ∉ ws) : AI Z h' a ty n f := by obtain ⟨c, A, r⟩ := F; exact ⟨c, ⟨K.2.1 a c A.1 e, A.2⟩, r⟩
theorem AJ.keep {ws : List Addr} (F : AJ Z h a n q) (K : Keep h h' ws) (e : a ∉ ws) : AJ Z h' a n q := by obtain ⟨c, A, r⟩ := F; exact ⟨c, ⟨K.2.1 a c A.1 e, A.2⟩, r⟩
theorem slots_set {c : Cell} {j k : Nat} {v : Value} (hj : j < c.slots.size) : (c.setSlot j v).slots[k]? = if k = j then some v else c.slots[k]? := by
  by_cases e : k = j
  · subst e; simp [Cell.setSlot, hj]
  · simp only [Cell.setSlot, if_neg e]; exact Array.getElem?_setIfInBounds_ne (Ne.symm e)
theorem AI.set {j : Nat} {v : Int32} (F : AI Z h a ty n f) (W : Wr h h' a j (.int v)) (hj : j < n) : AI Z h' a ty n (up f j v) := by
  obtain ⟨c, A, r1, r2⟩ := F
  refine ⟨_, A.same W, by rw [sz_set]; exact r1, fun k hk => ?_⟩
  rw [slots_set (by omega)]
  by_cases e : k = j
  · rw [if_pos e, e, up_same]
  · rw [if_neg e, up_other _ _ e]; exact r2 k hk
theorem AJ.set {j : Nat} {v : Int64} (F : AJ Z h a n q) (W : Wr h h' a j (.long v)) (hj : j < n) : AJ Z h' a n (up q j v) := by
  obtain ⟨c, A, r1, r2⟩ := F
  refine ⟨_, A.same W, by rw [sz_set]; exact r1, fun k hk => ?_⟩
  rw [slots_set (by omega)]
  by_cases e : k = j
  · rw [if_pos e, e, up_same]
  · rw [if_neg e, up_other _ _ e]; exact r2 k hk
theorem clamp {z : Int32} (hz : z.toInt = n) : z.toNatClampNeg = n := by simp only [Int32.toNatClampNeg]; omega
theorem AI.new {k : ClassId} {z : Int32} (A : Arr Z h a (newA k ty z) ty) (hz : z.toInt = n) (hd : defaultValue ty = .int 0) : AI Z h a ty n (fun _ => 0) :=
  ⟨_, A, by rw [sz_new]; exact clamp hz, fun i hi => by rw [← clamp hz] at hi; simp [newA, hi, hd]⟩
theorem AJ.new {k : ClassId} {z : Int32} (A : Arr Z h a (newA k .long z) .long) (hz : z.toInt = n) : AJ Z h a n (fun _ => 0) :=
  ⟨_, A, by rw [sz_new]; exact clamp hz, fun i hi => by rw [← clamp hz] at hi; simp [newA, hi, defaultValue]⟩
theorem AI.congr {f' : Nat → Int32} (F : AI Z h a ty n f) (e : ∀ k, k < n → f' k = f k) : AI Z h a ty n f' := by obtain ⟨c, A, r1, r2⟩ := F; exact ⟨c, A, r1, fun k hk => by rw [e k hk]; exact r2 k hk⟩
theorem AJ.congr {f' : Nat → Int64} (F : AJ Z h a n q) (e : ∀ k, k < n → f' k = q k) : AJ Z h a n f' := by obtain ⟨c, A, r1, r2⟩ := F; exact ⟨c, A, r1, fun k hk => by rw [e k hk]; exact r2 k hk⟩
theorem inb {j : Int32} {k sz : Nat} (hj : j.toInt = k) (hk : k < sz) : ¬ (j < 0 ∨ sz ≤ j.toNatClampNeg) := by
  rw [clamp hj, Int32.lt_iff_toInt_lt, hj, show (0 : Int32).toInt = 0 from rfl]; omega
theorem szI {z : Int32} (hz : z.toInt = n) : Nat.toInt32 n = z := by
  rw [← Int32.toInt_inj, len_toInt (by have := z.toInt_lt; omega), hz]
end Arrays
section Steps
variable {p : Program} {l : Launch} {e : Env} {R : Room} {s : State} {m : MethodId} {args : Array Value} {below : List Frame} {meth : Method} {c : Code} {T T' : State} {locs : List Loc} {cells slots : Nat} {P : Option Value → Heap → List Loc → Prop} {C N : Nat} {Ls : Array Slot} {S : List Value} {pc pc' : Nat} {Z : State} {h : Heap} {a : Addr} {n n0 : Nat} {f : Nat → Int32} {q : Nat → Int64} {a0 : Array Value} {ty : FieldType}
theorem getf (X : Stand p l e R s m args below meth c T locs cells slots) (hx : p.tables.exec = Jvm.exec) (hZ : Z.Warmed39 s.vm) {own R0 O n d host : String} {index : Nat} (hown : s.vm.findClass own = some m.cls) (w : (Cond.fieldLink own index R0 n d).before a0 Z = true ∨ (Cond.fieldLinkNest own index R0 n d host).before a0 Z = true) (via : Via Z R0 O n d)
    (eT : T.heap = h) {v : Value} (F : Fld Z h a O n d v) (hd : decode c.code pc = .ok (.getfield index, 3)) (hq : pc + 3 = pc') (K : ∀ T', Stand p l e R s m args below meth c T' locs cells slots → T'.heap = h → Gl p e below s P C N T' (mkF m pc' Ls (v :: S))) : Gl p e below s P C N T (mkF m pc Ls (.ref a :: S)) := by
  subst hq
  obtain ⟨T', X', e', st⟩ := getF X hx hZ hown w via eT F (g := mkF m pc Ls (.ref a :: S)) rfl rfl hd
  exact s2 _ st (K T' X' e')
theorem gets (X : Stand p l e R s m args below meth c T locs cells slots) (hx : p.tables.exec = Jvm.exec) (hZ : Z.Warmed39 s.vm) {own R0 O n d host : String} {index : Nat} (hown : s.vm.findClass own = some m.cls) (w : (Cond.fieldLink own index R0 n d).before a0 Z = true ∨ (Cond.fieldLinkNest own index R0 n d host).before a0 Z = true) (via : Via Z R0 O n d)
    (eT : T.heap = h) {v : Value} (F : Sta Z h O n d v) (hd : decode c.code pc = .ok (.getstatic index, 3)) (hq : pc + 3 = pc') (K : ∀ T', Stand p l e R s m args below meth c T' locs cells slots → T'.heap = h → Gl p e below s P C N T' (mkF m pc' Ls (v :: S))) : Gl p e below s P C N T (mkF m pc Ls S) := by
  subst hq
  obtain ⟨T', X', e', st⟩ := getS2 X hx hZ hown w via eT F (g := mkF m pc Ls S) rfl hd
  exact s2 _ st (K T' X' e')
theorem putf (X : Stand p l e R s m args below meth c T locs cells slots) (hx : p.tables.exec = Jvm.exec) (hZ : Z.Warmed39 s.vm) {own R0 O n d host Cl : String} {index kk : Nat} (hown : s.vm.findClass own = some m.cls) (w : (Cond.fieldLink own index R0 n d).before a0 Z = true ∨ (Cond.fieldLinkNest own index R0 n d host).before a0 Z = true) (via : Via Z R0 O n d)
    (eT : T.heap = h) {v old : Value} (F : Fld Z h a O n d old) (E : Exa Z h a Cl) (L : (Cond.lays Cl O n d).before a0 Z = true ∨ ((Cond.laysFinal Cl O n d).before a0 Z = true ∧ own = O ∧ meth.name = "<init>")) (wi : (Cond.instantiable Cl kk).before a0 Z = true)
    (hty : parseFieldDescriptor d = some ty) (hn : narrow ty v = v) (hf : fits ty v = true) (N0 : Fr n0 locs) (ga : n0 ≤ a) (hd : decode c.code pc = .ok (.putfield index, 3)) (hq : pc + 3 = pc')
    (K : ∀ T' h' L', Stand p l e R s m args below meth c T' L' cells slots → T'.heap = h' → Wr h h' a (RoadKit.slotOf Z O n d) v → Fld Z h' a O n d v → Fr n0 L' → Gl p e below s P C N T' (mkF m pc' Ls S)) : Gl p e below s P C N T (mkF m pc Ls (v :: .ref a :: S)) := by
  subst hq
  obtain ⟨T', h', X', e', W, st⟩ := putF X hx hZ hown w via eT F E L wi hty hn hf (g := mkF m pc Ls (v :: .ref a :: S)) rfl rfl hd
  exact s2 _ st (K T' h' _ X' e' W (F.same W) (Fr.snoc X' N0 ga))
theorem newo (X : Stand p l e R s m args below meth c T locs cells slots) (hx : p.tables.exec = Jvm.exec) (hZ : Z.Warmed39 s.vm) {own Cl : String} {index n : Nat} (hown : s.vm.findClass own = some m.cls) (w : (Cond.classLink own index Cl).before a0 Z = true) (wi : (Cond.instantiable Cl n).before a0 Z = true) (wz : (Cond.initialized Cl).before a0 Z = true) (eT : T.heap = h)
    (hd : decode c.code pc = .ok (.new index, 3)) (hc : cells + 1 ≤ R.cells) (hl : slots + n ≤ R.slots) (hq : pc + 3 = pc')
    (K : ∀ T' h' a, Stand p l e R s m args below meth c T' locs (cells + 1) (slots + n) → T'.heap = h' → Ext h h' → a = h.size → Exa Z h' a Cl → (∀ {O nm d : String} {ty : FieldType}, Laid Z a0 Cl O nm d → parseFieldDescriptor d = some ty → Fld Z h' a O nm d (defaultValue ty)) → Gl p e below s P C N T' (mkF m pc' Ls (.ref a :: S))) : Gl p e below s P C N T (mkF m pc Ls S) := by
  subst hq
  obtain ⟨T', h', X', e', E, A, D, -, st⟩ := newO X hx hZ hown w wi wz eT (g := mkF m pc Ls S) rfl hd hc hl
  exact s2 _ st (K T' h' _ X' e' E rfl A D)
theorem newi (X : Stand p l e R s m args below meth c T locs cells slots) (hx : p.tables.exec = Jvm.exec) (hZ : Z.Warmed39 s.vm) {aty : ArrayType} (w : (Cond.arrayClass ty).before a0 Z = true) (hty : newarray.typeOf aty = ty) (hdv : defaultValue ty = .int 0) (eT : T.heap = h) {z : Int32} (hd : decode c.code pc = .ok (.newarray aty, 2)) (hz : z.toInt = n) {cap : Nat} (hcap : n ≤ cap) (hb : cap * 8 ≤ 536870912) (hc : cells + 1 ≤ R.cells) (hl : slots + cap ≤ R.slots) (hq : pc + 2 = pc')
    (K : ∀ T' h' a, Stand p l e R s m args below meth c T' locs (cells + 1) (slots + cap) → T'.heap = h' → Ext h h' → a = h.size → AI Z h' a ty n (fun _ => 0) → Gl p e below s P C N T' (mkF m pc' Ls (.ref a :: S))) : Gl p e below s P C N T (mkF m pc Ls (.int z :: S)) := by
  subst hq hty
  obtain ⟨T', h', k, X', e', E, A, st⟩ := newP X hx hZ w eT (g := mkF m pc Ls (.int z :: S)) rfl hd rfl (by rw [Int32.lt_iff_toInt_lt, hz, show (0 : Int32).toInt = 0 from rfl]; omega) (cap := cap) (by rw [clamp hz]; exact hcap) hb hc hl
  exact s2 _ st (K T' h' _ X' e' E rfl (AI.new A hz hdv))
theorem newj (X : Stand p l e R s m args below meth c T locs cells slots) (hx : p.tables.exec = Jvm.exec) (hZ : Z.Warmed39 s.vm) (w : (Cond.arrayClass .long).before a0 Z = true) (eT : T.heap = h) {z : Int32} (hd : decode c.code pc = .ok (.newarray .long, 2)) (hz : z.toInt = n) {cap : Nat} (hcap : n ≤ cap) (hb : cap * 8 ≤ 536870912) (hc : cells + 1 ≤ R.cells) (hl : slots + cap ≤ R.slots) (hq : pc + 2 = pc')
    (K : ∀ T' h' a, Stand p l e R s m args below meth c T' locs (cells + 1) (slots + cap) → T'.heap = h' → Ext h h' → a = h.size → AJ Z h' a n (fun _ => 0) → Gl p e below s P C N T' (mkF m pc' Ls (.ref a :: S))) : Gl p e below s P C N T (mkF m pc Ls (.int z :: S)) := by
  subst hq
  obtain ⟨T', h', k, X', e', E, A, st⟩ := newP X hx hZ (aty := .long) w eT (g := mkF m pc Ls (.int z :: S)) rfl hd rfl (by rw [Int32.lt_iff_toInt_lt, hz, show (0 : Int32).toInt = 0 from rfl]; omega) (cap := cap) (by rw [clamp hz]; exact hcap) hb hc hl
  exact s2 _ st (K T' h' _ X' e' E rfl (AJ.new A hz))
theorem ldi (X : Stand p l e R s m args below meth c T locs cells slots) (hx : p.tables.exec = Jvm.exec) (hZ : Z.Warmed39 s.vm) (eT : T.heap = h) (F : AI Z h a .int n f) {j : Int32} (k : Nat) (hj : j.toInt = k) (hk : k < n) (hd : decode c.code pc = .ok (.iaload, 1)) (hq : pc + 1 = pc')
    (K : Gl p e below s P C N T (mkF m pc' Ls (.int (f k) :: S))) : Gl p e below s P C N T (mkF m pc Ls (.int j :: .ref a :: S)) := by
  subst hq
  obtain ⟨cl, A, r1, r2⟩ := F
  exact s1 _ (fun t q => X.iaload hx (v := .int (f k)) (by rw [eT]; exact A.1) (State.isArrayOf_alike hZ.alike A.2.1) A.2.2 (inb hj (by omega)) (by rw [clamp hj]; exact r2 k hk) (g := mkF m pc Ls (.int j :: .ref a :: S)) rfl rfl hd t q) K
theorem ldz (X : Stand p l e R s m args below meth c T locs cells slots) (hx : p.tables.exec = Jvm.exec) (hZ : Z.Warmed39 s.vm) (eT : T.heap = h) (F : AI Z h a .boolean n f) {j : Int32} (k : Nat) (hj : j.toInt = k) (hk : k < n) (hd : decode c.code pc = .ok (.baload, 1)) (hq : pc + 1 = pc')
    (K : Gl p e below s P C N T (mkF m pc' Ls (.int (f k) :: S))) : Gl p e below s P C N T (mkF m pc Ls (.int j :: .ref a :: S)) := by
  subst hq
  obtain ⟨cl, A, r1, r2⟩ := F
  exact s1 _ (fun t q => X.baloadBooleans hx (v := .int (f k)) (by rw [eT]; exact A.1) (State.isArrayOf_alike hZ.alike A.2.1) A.2.2 (inb hj (by omega)) (by rw [clamp hj]; exact r2 k hk) (g := mkF m pc Ls (.int j :: .ref a :: S)) rfl rfl hd t q) K
theorem ldb (X : Stand p l e R s m args below meth c T locs cells slots) (hx : p.tables.exec = Jvm.exec) (hZ : Z.Warmed39 s.vm) (eT : T.heap = h) (F : AI Z h a .byte n f) {j : Int32} (k : Nat) (hj : j.toInt = k) (hk : k < n) (hd : decode c.code pc = .ok (.baload, 1)) (hq : pc + 1 = pc')
    (K : Gl p e below s P C N T (mkF m pc' Ls (.int (f k) :: S))) : Gl p e below s P C N T (mkF m pc Ls (.int j :: .ref a :: S)) := by
  subst hq
  obtain ⟨cl, A, r1, r2⟩ := F
  exact s1 _ (fun t q => X.baloadBytes hx (v := .int (f k)) (by rw [eT]; exact A.1) (State.isArrayOf_alike hZ.alike A.2.1) A.2.2 (inb hj (by omega)) (by rw [clamp hj]; exact r2 k hk) (g := mkF m pc Ls (.int j :: .ref a :: S)) rfl rfl hd t q) K
theorem ldj (X : Stand p l e R s m args below meth c T locs cells slots) (hx : p.tables.exec = Jvm.exec) (hZ : Z.Warmed39 s.vm) (eT : T.heap = h) (F : AJ Z h a n q) {j : Int32} (k : Nat) (hj : j.toInt = k) (hk : k < n) (hd : decode c.code pc = .ok (.laload, 1)) (hq : pc + 1 = pc')
    (K : Gl p e below s P C N T (mkF m pc' Ls (.long (q k) :: S))) : Gl p e below s P C N T (mkF m pc Ls (.int j :: .ref a :: S)) := by
  subst hq
  obtain ⟨cl, A, r1, r2⟩ := F
  exact s1 _ (fun t u => X.laload hx (v := .long (q k)) (by rw [eT]; exact A.1) (State.isArrayOf_alike hZ.alike A.2.1) A.2.2 (inb hj (by omega)) (by rw [clamp hj]; exact r2 k hk) (g := mkF m pc Ls (.int j :: .ref a :: S)) rfl rfl hd t u) K
theorem alen (X : Stand p l e R s m args below meth c T locs cells slots) (hx : p.tables.exec = Jvm.exec) (hZ : Z.Warmed39 s.vm) (eT : T.heap = h) (F : AI Z h a ty n f) {z : Int32} (hz : z.toInt = n) (hd : decode c.code pc = .ok (.arraylength, 1)) (hq : pc + 1 = pc')
    (K : Gl p e below s P C N T (mkF m pc' Ls (.int z :: S))) : Gl p e below s P C N T (mkF m pc Ls (.ref a :: S)) := by
  subst hq
  obtain ⟨cl, A, r1, r2⟩ := F
  exact s1 _ (fun t u => X.arraylength hx (by rw [eT]; exact A.1) (State.isArrayOf_alike hZ.alike A.2.1) (g := mkF m pc Ls (.ref a :: S)) rfl rfl hd t (by rw [r1, szI hz]; exact u)) K
theorem alenJ (X : Stand p l e R s m args below meth c T locs cells slots) (hx : p.tables.exec = Jvm.exec) (hZ : Z.Warmed39 s.vm) (eT : T.heap = h) (F : AJ Z h a n q) {z : Int32} (hz : z.toInt = n) (hd : decode c.code pc = .ok (.arraylength, 1)) (hq : pc + 1 = pc')
    (K : Gl p e below s P C N T (mkF m pc' Ls (.int z :: S))) : Gl p e below s P C N T (mkF m pc Ls (.ref a :: S)) := by
  subst hq
  obtain ⟨cl, A, r1, r2⟩ := F
  exact s1 _ (fun t u => X.arraylength hx (by rw [eT]; exact A.1) (State.isArrayOf_alike hZ.alike A.2.1) (g := mkF m pc Ls (.ref a :: S)) rfl rfl hd t (by rw [r1, szI hz]; exact u)) K
theorem sti (X : Stand p l e R s m args below meth c T locs cells slots) (hx : p.tables.exec = Jvm.exec) (hZ : Z.Warmed39 s.vm) (eT : T.heap = h) (F : AI Z h a .int n f) {j x : Int32} (k : Nat) (hj : j.toInt = k) (hk : k < n) (N0 : Fr n0 locs) (ga : n0 ≤ a) (hd : decode c.code pc = .ok (.iastore, 1)) (hq : pc + 1 = pc')
    (K : ∀ T' h' L', Stand p l e R s m args below meth c T' L' cells slots → T'.heap = h' → Wr h h' a k (.int x) → AI Z h' a .int n (up f k x) → Fr n0 L' → Gl p e below s P C N T' (mkF m pc' Ls S)) : Gl p e below s P C N T (mkF m pc Ls (.int x :: .int j :: .ref a :: S)) := by
  subst hq
  obtain ⟨cl, A, r1, r2⟩ := F
  obtain ⟨T', h', X', e', W, st⟩ := stI X hx hZ eT A (inb hj (by omega)) (g := mkF m pc Ls (.int x :: .int j :: .ref a :: S)) rfl rfl hd
  have N1 := Fr.snoc X' N0 ga
  rw [clamp hj] at W
  exact s2 _ st (K T' h' _ X' e' W (AI.set ⟨cl, A, r1, r2⟩ W hk) N1)
theorem stz (X : Stand p l e R s m args below meth c T locs cells slots) (hx : p.tables.exec = Jvm.exec) (hZ : Z.Warmed39 s.vm) (eT : T.heap = h) (F : AI Z h a .boolean n f) {j x x' : Int32} (hn : nar .boolean x = x') (k : Nat) (hj : j.toInt = k) (hk : k < n) (N0 : Fr n0 locs) (ga : n0 ≤ a) (hd : decode c.code pc = .ok (.bastore, 1)) (hq : pc + 1 = pc')
    (K : ∀ T' h' L', Stand p l e R s m args below meth c T' L' cells slots → T'.heap = h' → Wr h h' a k (.int x') → AI Z h' a .boolean n (up f k x') → Fr n0 L' → Gl p e below s P C N T' (mkF m pc' Ls S)) : Gl p e below s P C N T (mkF m pc Ls (.int x :: .int j :: .ref a :: S)) := by
  subst hq hn
  obtain ⟨cl, A, r1, r2⟩ := F
  obtain ⟨T', h', X', e', W, st⟩ := stZ X hx hZ eT A (inb hj (by omega)) (g := mkF m pc Ls (.int x :: .int j :: .ref a :: S)) rfl rfl hd
  have N1 := Fr.snoc X' N0 ga
  rw [clamp hj] at W
  exact s2 _ st (K T' h' _ X' e' W (AI.set ⟨cl, A, r1, r2⟩ W hk) N1)
theorem stb (X : Stand p l e R s m args below meth c T locs cells slots) (hx : p.tables.exec = Jvm.exec) (hZ : Z.Warmed39 s.vm) (eT : T.heap = h) (F : AI Z h a .byte n f) {j x x' : Int32} (hn : nar .byte x = x') (k : Nat) (hj : j.toInt = k) (hk : k < n) (N0 : Fr n0 locs) (ga : n0 ≤ a) (hd : decode c.code pc = .ok (.bastore, 1)) (hq : pc + 1 = pc')
    (K : ∀ T' h' L', Stand p l e R s m args below meth c T' L' cells slots → T'.heap = h' → Wr h h' a k (.int x') → AI Z h' a .byte n (up f k x') → Fr n0 L' → Gl p e below s P C N T' (mkF m pc' Ls S)) : Gl p e below s P C N T (mkF m pc Ls (.int x :: .int j :: .ref a :: S)) := by
  subst hq hn
  obtain ⟨cl, A, r1, r2⟩ := F
  obtain ⟨T', h', X', e', W, st⟩ := stB X hx hZ eT A (inb hj (by omega)) (g := mkF m pc Ls (.int x :: .int j :: .ref a :: S)) rfl rfl hd
  have N1 := Fr.snoc X' N0 ga
  rw [clamp hj] at W
  exact s2 _ st (K T' h' _ X' e' W (AI.set ⟨cl, A, r1, r2⟩ W hk) N1)
theorem stj (X : Stand p l e R s m args below meth c T locs cells slots) (hx : p.tables.exec = Jvm.exec) (hZ : Z.Warmed39 s.vm) (eT : T.heap = h) (F : AJ Z h a n q) {j : Int32} {x : Int64} (k : Nat) (hj : j.toInt = k) (hk : k < n) (N0 : Fr n0 locs) (ga : n0 ≤ a) (hd : decode c.code pc = .ok (.lastore, 1)) (hq : pc + 1 = pc')
    (K : ∀ T' h' L', Stand p l e R s m args below meth c T' L' cells slots → T'.heap = h' → Wr h h' a k (.long x) → AJ Z h' a n (up q k x) → Fr n0 L' → Gl p e below s P C N T' (mkF m pc' Ls S)) : Gl p e below s P C N T (mkF m pc Ls (.long x :: .int j :: .ref a :: S)) := by
  subst hq
  obtain ⟨cl, A, r1, r2⟩ := F
  obtain ⟨T', h', X', e', W, st⟩ := stJ X hx hZ eT A (inb hj (by omega)) (g := mkF m pc Ls (.long x :: .int j :: .ref a :: S)) rfl rfl hd
  have N1 := Fr.snoc X' N0 ga
  rw [clamp hj] at W
  exact s2 _ st (K T' h' _ X' e' W (AJ.set ⟨cl, A, r1, r2⟩ W hk) N1)
end Steps
end Jvm.Pilot.@@N@@.W
namespace Jvm.Pilot.@@N@@
open Jvm Jvm.ClassFile Sem Op Lib Jvm.Free Jvm.Stand Jvm.LawKit Jvm.RoadKit Bundle Jvm.Pilot.@@N@@.Jvm.D
def own_G : Int64 := -7046029254386353131
def own_M1 : Int64 := -4658895280553007687
def own_M2 : Int64 := -7723592293110705685
def own_mix (z : Int64) : Int64 :=
  let z1 : Int64 := (z ^^^ ((z.toUInt64 >>> ((30 : Int32) &&& 0x3f).toInt64.toUInt64).toInt64)) * (-4658895280553007687 : Int64)
  let z2 : Int64 := (z1 ^^^ ((z1.toUInt64 >>> ((27 : Int32) &&& 0x3f).toInt64.toUInt64).toInt64)) * (-7723592293110705685 : Int64)
  z2 ^^^ ((z2.toUInt64 >>> ((31 : Int32) &&& 0x3f).toInt64.toUInt64).toInt64)
def own_below (z : Int64) (k : Int32) : Int32 := ((((z.toUInt64 >>> ((32 : Int32) &&& 0x3f).toInt64.toUInt64).toInt64 * k.toInt64).toUInt64 >>> ((32 : Int32) &&& 0x3f).toInt64.toUInt64).toInt64).toInt32
theorem own_b {z : Int64} {k : Int32} {r : Int32} {hi pr : Int64} (h1 : 1 ≤ k.toInt) (hr : r = own_below z k) (hh : (z.toUInt64 >>> ((32 : Int32) &&& 0x3f).toInt64.toUInt64).toInt64 = hi) (hp : hi * k.toInt64 = pr) :
    ¬ r < 0 ∧ r < k ∧ ¬ pr < (r.toInt64 <<< ((32 : Int32) &&& 0x3f).toInt64) ∧ (pr - (r.toInt64 <<< ((32 : Int32) &&& 0x3f).toInt64)) < (4294967296 : Int64) := by
  have a1 := c_lushr z 32 32 rfl (by decide)
  rw [hh] at a1
  have h2 := k.toInt_lt
  have b1 : 0 ≤ hi.toInt ∧ hi.toInt < 4294967296 := by omega
  have a2 := c_lmul hi k.toInt64
  rw [hp, c_i2l] at a2
  have m1 : 0 ≤ hi.toInt * k.toInt := Int.mul_nonneg b1.1 (by omega)
  have m2 : hi.toInt * k.toInt ≤ 4294967295 * k.toInt := Int.mul_le_mul_of_nonneg_right (by omega) (by omega)
  have b2 := pr.toInt_lt
  have b3 := pr.le_toInt
  generalize hM : hi.toInt * k.toInt = M at *
  have a3 : pr.toInt = M := by omega
  have a4 := c_lushr pr 32 32 rfl (by decide)
  have a5 := c_l2i ((pr.toUInt64 >>> ((32 : Int32) &&& 0x3f).toInt64.toUInt64).toInt64)
  have er : r = ((pr.toUInt64 >>> ((32 : Int32) &&& 0x3f).toInt64.toUInt64).toInt64).toInt32 := by rw [hr, own_below, hh, hp]
  rw [← er] at a5
  have b4 := rng32 r
  have a6 : r.toInt = M / 4294967296 := by omega
  have a7 := c_lshl r.toInt64 32 32 rfl
  rw [c_i2l] at a7
  generalize hl : (r.toInt64 <<< ((32 : Int32) &&& 0x3f).toInt64) = low at *
  have b5 := low.toInt_lt
  have b6 := low.le_toInt
  have a8 : low.toInt = r.toInt * 4294967296 := by omega
  have a9 := c_lsub pr low
  have b7 := (pr - low).toInt_lt
  have b8 := (pr - low).le_toInt
  have z0 : (0 : Int32).toInt = 0 := rfl
  have z1 : (4294967296 : Int64).toInt = 4294967296 := rfl
  rw [Int32.lt_iff_toInt_lt, Int32.lt_iff_toInt_lt, Int64.lt_iff_toInt_lt, Int64.lt_iff_toInt_lt, z0, z1]
  refine ⟨by omega, by omega, by omega, by omega⟩
theorem pn_0 : plainName "com/example/hybridge/hybridge/simulation/SplitMix64" = true := by first | (simp [plainName, overriddenIn]; done) | decide +kernel
theorem ef_2 (m : MethodId) (x0 : Addr) (x1 : Int64) : entryFrame m #[(.ref x0), (.long x1)] 3 = mkF m 0 #[.val (.ref x0), .val (.long x1), .second] [] := by first | (simp [entryFrame, mkF, argsToLocals, Value.category]; done) | rfl
theorem d2_0 : decode prog_96_method_1_code 0 = .ok (.aload_n 0, 1) := by decide +kernel
theorem d2_1 : decode prog_96_method_1_code 1 = .ok (.invokespecial 1, 3) := by decide +kernel
theorem d2_4 : decode prog_96_method_1_code 4 = .ok (.aload_n 0, 1) := by decide +kernel
theorem d2_5 : decode prog_96_method_1_code 5 = .ok (.lload_n 1, 1) := by decide +kernel
theorem d2_6 : decode prog_96_method_1_code 6 = .ok (.putfield 7, 3) := by decide +kernel
theorem d2_9 : decode prog_96_method_1_code 9 = .ok (.return_, 1) := by decide +kernel
def Q2 (Z : State) (ao : Addr) (ys : Int64) (uo : Value) (h0 : Heap) (n0 : Nat) (v : Option Value) (h : Heap) (L : List Loc) : Prop := v = none ∧ Fr n0 L ∧ Keep h0 h [ao] ∧ Fld Z h ao "com/example/hybridge/hybridge/simulation/SplitMix64" "state" "J" (.long ys)
set_option maxRecDepth 65536 in
set_option maxHeartbeats 40000000 in
theorem rm2 (l : Launch) (Z : State) (a0 : Array Value) (hw : ∀ d ∈ tables_1, d.before a0 Z = true) (ws : List Jvm.Cond) (ao : Addr) (ys : Int64) (uo : Value) (h0 : Heap) (n0 : Nat) (Z0 : n0 ≤ h0.size) (F0 : Fld Z h0 ao "com/example/hybridge/hybridge/simulation/SplitMix64" "state" "J" uo) (E0 : Exa Z h0 ao "com/example/hybridge/hybridge/simulation/SplitMix64") (ga : n0 ≤ ao) :
    MetFree l (⟨"com/example/hybridge/hybridge/simulation/SplitMix64", "<init>", "(J)V"⟩ : MethodName) (head1 (Jvm.Cond.code (⟨"com/example/hybridge/hybridge/simulation/SplitMix64", "<init>", "(J)V"⟩ : MethodName) prog_96_method_1_code 3 none :: ws) ({ frames := 1, cells := 0, slots := 0, locals := 12 } : Room)) (fun a U => a = #[(.ref ao), (.long ys)] ∧ Z.Warmed39 U.vm ∧ U.heap = h0) (fun _ _ _ _ _ => True) (fun _ U o U' => ∃ v L, o = .returned v ∧ Q2 Z ao ys uo h0 n0 v U'.heap L ∧ FrameEnd U o U' L ({ frames := 1, cells := 0, slots := 0, locals := 12 } : Room).cells ({ frames := 1, cells := 0, slots := 0, locals := 12 } : Room).slots) := by
  refine MetFree.of_bodySF (plainFor_of_name pn_0) hisR ?_
  intro p e s m args below meth c s₁ Bd hml0 hP hK
  obtain ⟨rfl, hZ, hh⟩ := hP
  have hx := Bd.exec
  have hby := Bd.bytes
  have hml : c.maxLocals = 3 := hml0
  have hown : s.vm.findClass "com/example/hybridge/hybridge/simulation/SplitMix64" = some m.cls := findClass_of_methodNamed Bd.named
  have hnm := (name_of_methodNamed Bd.named Bd.method).1
  have hlk : meth.locks = false := BodyLoose.notSynchronized Bd
  have X0 : Stand p l e ({ frames := 1, cells := 0, slots := 0, locals := 12 } : Room) s m #[(.ref ao), (.long ys)] below meth c s₁ [] 0 0 := Stand.of_body Bd
  have e0 : s₁.heap = h0 := by rw [← hh, Bd.state]; rfl
  have N0 := Fr.nil n0
  show W.Gl p e below s (Q2 Z ao ys uo h0 n0) ({ frames := 1, cells := 0, slots := 0, locals := 12 } : Room).cells ({ frames := 1, cells := 0, slots := 0, locals := 12 } : Room).slots s₁ (entryFrame m #[(.ref ao), (.long ys)] 3)
  refine W.cast (ef_2 m ao ys) ?_
  have K0 : Keep h0 h0 [ao] := Keep.refl h0 [ao]
  refine W.s1 (mkF m 1 #[.val (.ref ao), .val (.long ys), .second] [(.ref ao)]) (fun _ kx_ => XS.aloadN X0.here hx rfl (hb hby d2_0) rfl rfl kx_) ?_
  obtain ⟨T101, X101, e101, st101⟩ := initO X0 hx hZ hown (hw _ (List.mem_of_getElem? (i := 11) rfl)) (hw _ (List.mem_of_getElem? (i := 12) rfl)) (hw _ (List.mem_of_getElem? (i := 13) rfl)) e0 (g := (mkF m 1 #[.val (.ref ao), .val (.long ys), .second] [(.ref ao)])) rfl (by rw [hml]; rfl) rfl (hb hby d2_1) (by decide) (W := 0) (by show 2 * 0 + _ ≤ _; exact Nat.le_of_eq rfl) (by decide)
  refine W.s2 (mkF m 4 #[.val (.ref ao), .val (.long ys), .second] []) st101 ?_
  refine W.s1 (mkF m 5 #[.val (.ref ao), .val (.long ys), .second] [(.ref ao)]) (fun _ kx_ => XS.aloadN X101.here hx rfl (hb hby d2_4) rfl rfl kx_) ?_
  refine W.s1 (mkF m 6 #[.val (.ref ao), .val (.long ys), .second] [(.long ys), (.ref ao)]) (fun _ kx_ => XS.lloadN X101.here hx rfl (hb hby d2_5) rfl kx_) ?_
  refine W.putf X101 hx hZ hown (host := "") (Or.inl (hw _ (List.mem_of_getElem? (i := 14) rfl))) Via.refl e101 F0 E0 (Or.inl (hw _ (List.mem_of_getElem? (i := 15) rfl))) (hw _ (List.mem_of_getElem? (i := 6) rfl)) (ty := .long) (by decide) rfl rfl N0 ga (hb hby d2_6) (pc' := 9) rfl (fun T102 h102 L102 X102 e102 W102 fw102 N102 => ?_)
  have Z102 : n0 ≤ h102.size := Nat.le_trans Z0 (Keep.of_wr W102).1
  have f103 := E0.wr W102
  have K102 : Keep h0 h102 [ao] := K0.wr W102 (Or.inl (List.mem_of_getElem? (i := 0) rfl))
  exact W.ret0 X102 hx hlk Bd.returns (hb hby d2_9) (by show Q2 Z ao ys uo h0 n0 _ T102.heap _; rw [e102]; exact ⟨rfl, N102, K102, fw102⟩) (by decide) (by decide)
theorem ef_5 (m : MethodId) (x0 : Addr) : entryFrame m #[(.ref x0)] 3 = mkF m 0 #[.val (.ref x0), .unset, .unset] [] := by first | (simp [entryFrame, mkF, argsToLocals, Value.category]; done) | rfl
theorem d5_0 : decode prog_96_method_2_code 0 = .ok (.aload_n 0, 1) := by decide +kernel
theorem d5_1 : decode prog_96_method_2_code 1 = .ok (.dup, 1) := by decide +kernel
theorem d5_2 : decode prog_96_method_2_code 2 = .ok (.getfield 7, 3) := by decide +kernel
theorem d5_5 : decode prog_96_method_2_code 5 = .ok (.ldc2_w 13, 3) := by decide +kernel
theorem d5_8 : decode prog_96_method_2_code 8 = .ok (.ladd, 1) := by decide +kernel
theorem d5_9 : decode prog_96_method_2_code 9 = .ok (.putfield 7, 3) := by decide +kernel
theorem d5_12 : decode prog_96_method_2_code 12 = .ok (.aload_n 0, 1) := by decide +kernel
theorem d5_13 : decode prog_96_method_2_code 13 = .ok (.getfield 7, 3) := by decide +kernel
theorem d5_16 : decode prog_96_method_2_code 16 = .ok (.lstore_n 1, 1) := by decide +kernel
theorem d5_17 : decode prog_96_method_2_code 17 = .ok (.lload_n 1, 1) := by decide +kernel
theorem d5_18 : decode prog_96_method_2_code 18 = .ok (.lload_n 1, 1) := by decide +kernel
theorem d5_19 : decode prog_96_method_2_code 19 = .ok (.bipush 30, 2) := by decide +kernel
theorem d5_21 : decode prog_96_method_2_code 21 = .ok (.lushr, 1) := by decide +kernel
theorem d5_22 : decode prog_96_method_2_code 22 = .ok (.lxor, 1) := by decide +kernel
theorem d5_23 : decode prog_96_method_2_code 23 = .ok (.ldc2_w 15, 3) := by decide +kernel
theorem d5_26 : decode prog_96_method_2_code 26 = .ok (.lmul, 1) := by decide +kernel
theorem d5_27 : decode prog_96_method_2_code 27 = .ok (.lstore_n 1, 1) := by decide +kernel
theorem d5_28 : decode prog_96_method_2_code 28 = .ok (.lload_n 1, 1) := by decide +kernel
theorem d5_29 : decode prog_96_method_2_code 29 = .ok (.lload_n 1, 1) := by decide +kernel
theorem d5_30 : decode prog_96_method_2_code 30 = .ok (.bipush 27, 2) := by decide +kernel
theorem d5_32 : decode prog_96_method_2_code 32 = .ok (.lushr, 1) := by decide +kernel
theorem d5_33 : decode prog_96_method_2_code 33 = .ok (.lxor, 1) := by decide +kernel
theorem d5_34 : decode prog_96_method_2_code 34 = .ok (.ldc2_w 17, 3) := by decide +kernel
theorem d5_37 : decode prog_96_method_2_code 37 = .ok (.lmul, 1) := by decide +kernel
theorem d5_38 : decode prog_96_method_2_code 38 = .ok (.lstore_n 1, 1) := by decide +kernel
theorem d5_39 : decode prog_96_method_2_code 39 = .ok (.lload_n 1, 1) := by decide +kernel
theorem d5_40 : decode prog_96_method_2_code 40 = .ok (.lload_n 1, 1) := by decide +kernel
theorem d5_41 : decode prog_96_method_2_code 41 = .ok (.bipush 31, 2) := by decide +kernel
theorem d5_43 : decode prog_96_method_2_code 43 = .ok (.lushr, 1) := by decide +kernel
theorem d5_44 : decode prog_96_method_2_code 44 = .ok (.lxor, 1) := by decide +kernel
theorem d5_45 : decode prog_96_method_2_code 45 = .ok (.lreturn, 1) := by decide +kernel
def Q5 (Z : State) (ao : Addr) (ys : Int64) (h0 : Heap) (n0 : Nat) (v : Option Value) (h : Heap) (L : List Loc) : Prop := v = some (.long (own_mix (ys + (-7046029254386353131 : Int64)))) ∧ Fr n0 L ∧ Keep h0 h [ao] ∧ Fld Z h ao "com/example/hybridge/hybridge/simulation/SplitMix64" "state" "J" (.long (ys + (-7046029254386353131 : Int64)))
set_option maxRecDepth 65536 in
set_option maxHeartbeats 40000000 in
theorem rm5 (l : Launch) (Z : State) (a0 : Array Value) (hw : ∀ d ∈ tables_1, d.before a0 Z = true) (ws : List Jvm.Cond) (ao : Addr) (ys : Int64) (h0 : Heap) (n0 : Nat) (Z0 : n0 ≤ h0.size) (F0 : Fld Z h0 ao "com/example/hybridge/hybridge/simulation/SplitMix64" "state" "J" (.long ys)) (E0 : Exa Z h0 ao "com/example/hybridge/hybridge/simulation/SplitMix64") (ga : n0 ≤ ao) :
    MetFree l (⟨"com/example/hybridge/hybridge/simulation/SplitMix64", "nextLong", "()J"⟩ : MethodName) (head1 (Jvm.Cond.code (⟨"com/example/hybridge/hybridge/simulation/SplitMix64", "nextLong", "()J"⟩ : MethodName) prog_96_method_2_code 3 (some .long) :: ws) ({ frames := 0, cells := 0, slots := 0, locals := 0 } : Room)) (fun a U => a = #[(.ref ao)] ∧ Z.Warmed39 U.vm ∧ U.heap = h0) (fun _ _ _ _ _ => True) (fun _ U o U' => ∃ v L, o = .returned v ∧ Q5 Z ao ys h0 n0 v U'.heap L ∧ FrameEnd U o U' L ({ frames := 0, cells := 0, slots := 0, locals := 0 } : Room).cells ({ frames := 0, cells := 0, slots := 0, locals := 0 } : Room).slots) := by
  refine MetFree.of_bodySF (plainFor_of_name pn_0) hisR ?_
  intro p e s m args below meth c s₁ Bd hml0 hP hK
  obtain ⟨rfl, hZ, hh⟩ := hP
  have hx := Bd.exec
  have hby := Bd.bytes
  have hml : c.maxLocals = 3 := hml0
  have hown : s.vm.findClass "com/example/hybridge/hybridge/simulation/SplitMix64" = some m.cls := findClass_of_methodNamed Bd.named
  have hnm := (name_of_methodNamed Bd.named Bd.method).1
  have hlk : meth.locks = false := BodyLoose.notSynchronized Bd
  have X0 : Stand p l e ({ frames := 0, cells := 0, slots := 0, locals := 0 } : Room) s m #[(.ref ao)] below meth c s₁ [] 0 0 := Stand.of_body Bd
  have e0 : s₁.heap = h0 := by rw [← hh, Bd.state]; rfl
  have N0 := Fr.nil n0
  show W.Gl p e below s (Q5 Z ao ys h0 n0) ({ frames := 0, cells := 0, slots := 0, locals := 0 } : Room).cells ({ frames := 0, cells := 0, slots := 0, locals := 0 } : Room).slots s₁ (entryFrame m #[(.ref ao)] 3)
  refine W.cast (ef_5 m ao) ?_
  have K0 : Keep h0 h0 [ao] := Keep.refl h0 [ao]
  refine W.s1 (mkF m 1 #[.val (.ref ao), .unset, .unset] [(.ref ao)]) (fun _ kx_ => XS.aloadN X0.here hx rfl (hb hby d5_0) rfl rfl kx_) ?_
  refine W.s1 (mkF m 2 #[.val (.ref ao), .unset, .unset] [(.ref ao), (.ref ao)]) (fun _ kx_ => XS.dup X0.here hx rfl (hb hby d5_1) rfl rfl kx_) ?_
  refine W.getf X0 hx hZ hown (host := "") (Or.inl (hw _ (List.mem_of_getElem? (i := 14) rfl))) Via.refl e0 F0 (hb hby d5_2) (pc' := 5) rfl (fun T101 X101 e101 => ?_)
  refine W.s1 (mkF m 8 #[.val (.ref ao), .unset, .unset] [(.long (-7046029254386353131 : Int64)), (.long ys), (.ref ao)]) (fun _ kx_ => X101.ldc2Long hx hown (mvT hZ (hw _ (List.mem_of_getElem? (i := 26) rfl))) (g := (mkF m 5 #[.val (.ref ao), .unset, .unset] [(.long ys), (.ref ao)])) rfl (hb hby d5_5) _ kx_) ?_
  refine W.s1 (mkF m 9 #[.val (.ref ao), .unset, .unset] [(.long (ys + (-7046029254386353131 : Int64))), (.ref ao)]) (fun _ kx_ => XS.ladd X101.here hx rfl (hb hby d5_8) rfl kx_) ?_
  refine W.putf X101 hx hZ hown (host := "") (Or.inl (hw _ (List.mem_of_getElem? (i := 14) rfl))) Via.refl e101 F0 E0 (Or.inl (hw _ (List.mem_of_getElem? (i := 15) rfl))) (hw _ (List.mem_of_getElem? (i := 6) rfl)) (ty := .long) (by decide) rfl rfl N0 ga (hb hby d5_9) (pc' := 12) rfl (fun T102 h102 L102 X102 e102 W102 fw102 N102 => ?_)
  have Z102 : n0 ≤ h102.size := Nat.le_trans Z0 (Keep.of_wr W102).1
  have f103 := E0.wr W102
  have K102 : Keep h0 h102 [ao] := K0.wr W102 (Or.inl (List.mem_of_getElem? (i := 0) rfl))
  refine W.s1 (mkF m 13 #[.val (.ref ao), .unset, .unset] [(.ref ao)]) (fun _ kx_ => XS.aloadN X102.here hx rfl (hb hby d5_12) rfl rfl kx_) ?_
  refine W.getf X102 hx hZ hown (host := "") (Or.inl (hw _ (List.mem_of_getElem? (i := 14) rfl))) Via.refl e102 fw102 (hb hby d5_13) (pc' := 16) rfl (fun T104 X104 e104 => ?_)
  generalize hg_z0 : (ys + (-7046029254386353131 : Int64)) = z0
  refine W.s1 (mkF m 17 #[.val (.ref ao), .val (.long z0), .second] []) (fun _ kx_ => XS.lstoreN X104.here hx rfl (hb hby d5_16) rfl (l' := #[.val (.ref ao), .val (.long z0), .second]) rfl kx_) ?_
  refine W.s1 (mkF m 18 #[.val (.ref ao), .val (.long z0), .second] [(.long z0)]) (fun _ kx_ => XS.lloadN X104.here hx rfl (hb hby d5_17) rfl kx_) ?_
  refine W.s1 (mkF m 19 #[.val (.ref ao), .val (.long z0), .second] [(.long z0), (.long z0)]) (fun _ kx_ => XS.lloadN X104.here hx rfl (hb hby d5_18) rfl kx_) ?_
  refine W.s1 (mkF m 21 #[.val (.ref ao), .val (.long z0), .second] [(.int (30 : Int32)), (.long z0), (.long z0)]) (fun _ kx_ => XS.bipush X104.here hx rfl (hb hby d5_19) kx_) ?_
  refine W.s1 (mkF m 22 #[.val (.ref ao), .val (.long z0), .second] [(.long ((z0.toUInt64 >>> ((30 : Int32) &&& 0x3f).toInt64.toUInt64).toInt64)), (.long z0)]) (fun _ kx_ => XS.lushr X104.here hx rfl (hb hby d5_21) rfl kx_) ?_
  refine W.s1 (mkF m 23 #[.val (.ref ao), .val (.long z0), .second] [(.long (z0 ^^^ ((z0.toUInt64 >>> ((30 : Int32) &&& 0x3f).toInt64.toUInt64).toInt64)))]) (fun _ kx_ => XS.lxor X104.here hx rfl (hb hby d5_22) rfl kx_) ?_
  refine W.s1 (mkF m 26 #[.val (.ref ao), .val (.long z0), .second] [(.long (-4658895280553007687 : Int64)), (.long (z0 ^^^ ((z0.toUInt64 >>> ((30 : Int32) &&& 0x3f).toInt64.toUInt64).toInt64)))]) (fun _ kx_ => X104.ldc2Long hx hown (mvT hZ (hw _ (List.mem_of_getElem? (i := 27) rfl))) (g := (mkF m 23 #[.val (.ref ao), .val (.long z0), .second] [(.long (z0 ^^^ ((z0.toUInt64 >>> ((30 : Int32) &&& 0x3f).toInt64.toUInt64).toInt64)))])) rfl (hb hby d5_23) _ kx_) ?_
  refine W.s1 (mkF m 27 #[.val (.ref ao), .val (.long z0), .second] [(.long ((z0 ^^^ ((z0.toUInt64 >>> ((30 : Int32) &&& 0x3f).toInt64.toUInt64).toInt64)) * (-4658895280553007687 : Int64)))]) (fun _ kx_ => XS.lmul X104.here hx rfl (hb hby d5_26) rfl kx_) ?_
  generalize hg_z1 : ((z0 ^^^ ((z0.toUInt64 >>> ((30 : Int32) &&& 0x3f).toInt64.toUInt64).toInt64)) * (-4658895280553007687 : Int64)) = z1
  refine W.s1 (mkF m 28 #[.val (.ref ao), .val (.long z1), .second] []) (fun _ kx_ => XS.lstoreN X104.here hx rfl (hb hby d5_27) rfl (l' := #[.val (.ref ao), .val (.long z1), .second]) rfl kx_) ?_
  refine W.s1 (mkF m 29 #[.val (.ref ao), .val (.long z1), .second] [(.long z1)]) (fun _ kx_ => XS.lloadN X104.here hx rfl (hb hby d5_28) rfl kx_) ?_
  refine W.s1 (mkF m 30 #[.val (.ref ao), .val (.long z1), .second] [(.long z1), (.long z1)]) (fun _ kx_ => XS.lloadN X104.here hx rfl (hb hby d5_29) rfl kx_) ?_
  refine W.s1 (mkF m 32 #[.val (.ref ao), .val (.long z1), .second] [(.int (27 : Int32)), (.long z1), (.long z1)]) (fun _ kx_ => XS.bipush X104.here hx rfl (hb hby d5_30) kx_) ?_
  refine W.s1 (mkF m 33 #[.val (.ref ao), .val (.long z1), .second] [(.long ((z1.toUInt64 >>> ((27 : Int32) &&& 0x3f).toInt64.toUInt64).toInt64)), (.long z1)]) (fun _ kx_ => XS.lushr X104.here hx rfl (hb hby d5_32) rfl kx_) ?_
  refine W.s1 (mkF m 34 #[.val (.ref ao), .val (.long z1), .second] [(.long (z1 ^^^ ((z1.toUInt64 >>> ((27 : Int32) &&& 0x3f).toInt64.toUInt64).toInt64)))]) (fun _ kx_ => XS.lxor X104.here hx rfl (hb hby d5_33) rfl kx_) ?_
  refine W.s1 (mkF m 37 #[.val (.ref ao), .val (.long z1), .second] [(.long (-7723592293110705685 : Int64)), (.long (z1 ^^^ ((z1.toUInt64 >>> ((27 : Int32) &&& 0x3f).toInt64.toUInt64).toInt64)))]) (fun _ kx_ => X104.ldc2Long hx hown (mvT hZ (hw _ (List.mem_of_getElem? (i := 28) rfl))) (g := (mkF m 34 #[.val (.ref ao), .val (.long z1), .second] [(.long (z1 ^^^ ((z1.toUInt64 >>> ((27 : Int32) &&& 0x3f).toInt64.toUInt64).toInt64)))])) rfl (hb hby d5_34) _ kx_) ?_
  refine W.s1 (mkF m 38 #[.val (.ref ao), .val (.long z1), .second] [(.long ((z1 ^^^ ((z1.toUInt64 >>> ((27 : Int32) &&& 0x3f).toInt64.toUInt64).toInt64)) * (-7723592293110705685 : Int64)))]) (fun _ kx_ => XS.lmul X104.here hx rfl (hb hby d5_37) rfl kx_) ?_
  generalize hg_z2 : ((z1 ^^^ ((z1.toUInt64 >>> ((27 : Int32) &&& 0x3f).toInt64.toUInt64).toInt64)) * (-7723592293110705685 : Int64)) = z2
  refine W.s1 (mkF m 39 #[.val (.ref ao), .val (.long z2), .second] []) (fun _ kx_ => XS.lstoreN X104.here hx rfl (hb hby d5_38) rfl (l' := #[.val (.ref ao), .val (.long z2), .second]) rfl kx_) ?_
  refine W.s1 (mkF m 40 #[.val (.ref ao), .val (.long z2), .second] [(.long z2)]) (fun _ kx_ => XS.lloadN X104.here hx rfl (hb hby d5_39) rfl kx_) ?_
  refine W.s1 (mkF m 41 #[.val (.ref ao), .val (.long z2), .second] [(.long z2), (.long z2)]) (fun _ kx_ => XS.lloadN X104.here hx rfl (hb hby d5_40) rfl kx_) ?_
  refine W.s1 (mkF m 43 #[.val (.ref ao), .val (.long z2), .second] [(.int (31 : Int32)), (.long z2), (.long z2)]) (fun _ kx_ => XS.bipush X104.here hx rfl (hb hby d5_41) kx_) ?_
  refine W.s1 (mkF m 44 #[.val (.ref ao), .val (.long z2), .second] [(.long ((z2.toUInt64 >>> ((31 : Int32) &&& 0x3f).toInt64.toUInt64).toInt64)), (.long z2)]) (fun _ kx_ => XS.lushr X104.here hx rfl (hb hby d5_43) rfl kx_) ?_
  refine W.s1 (mkF m 45 #[.val (.ref ao), .val (.long z2), .second] [(.long (z2 ^^^ ((z2.toUInt64 >>> ((31 : Int32) &&& 0x3f).toInt64.toUInt64).toInt64)))]) (fun _ kx_ => XS.lxor X104.here hx rfl (hb hby d5_44) rfl kx_) ?_
  exact W.retL X104 hx hlk Bd.returns (hb hby d5_45) (by show Q5 Z ao ys h0 n0 _ T104.heap _; rw [e104]; exact ⟨by subst hg_z2 hg_z1 hg_z0; rfl, N102, K102, fw102⟩) (by decide) (by decide)
theorem ef_1 (m : MethodId) (x0 : Int32) (x1 : Int32) : entryFrame m #[(.int x0), (.int x1)] 2 = mkF m 0 #[.val (.int x0), .val (.int x1)] [] := by first | (simp [entryFrame, mkF, argsToLocals, Value.category]; done) | rfl
theorem d1_0 : decode jdk_29_method_65_code 0 = .ok (.iload_n 0, 1) := by decide +kernel
theorem d1_1 : decode jdk_29_method_65_code 1 = .ok (.iload_n 1, 1) := by decide +kernel
theorem d1_2 : decode jdk_29_method_65_code 2 = .ok (.if_icmp .lt 7, 3) := by decide +kernel
theorem d1_9 : decode jdk_29_method_65_code 9 = .ok (.iload_n 1, 1) := by decide +kernel
theorem d1_10 : decode jdk_29_method_65_code 10 = .ok (.ireturn, 1) := by decide +kernel
theorem d1_5 : decode jdk_29_method_65_code 5 = .ok (.iload_n 0, 1) := by decide +kernel
theorem d1_6 : decode jdk_29_method_65_code 6 = .ok (.goto 4, 3) := by decide +kernel
def Q1 (Z : State) (xa : Int32) (xb : Int32) (h0 : Heap) (n0 : Nat) (v : Option Value) (h : Heap) (L : List Loc) : Prop := ∃ r : Int32, v = some (.int r) ∧ Fr n0 L ∧ h = h0 ∧ ((r = xa ∧ ¬ xa < xb) ∨ (r = xb ∧ xa < xb))
set_option maxRecDepth 65536 in
set_option maxHeartbeats 40000000 in
theorem rm1 (l : Launch) (Z : State) (a0 : Array Value) (hw : ∀ d ∈ tables_1, d.before a0 Z = true) (ws : List Jvm.Cond) (xa : Int32) (xb : Int32) (h0 : Heap) (n0 : Nat) (Z0 : n0 ≤ h0.size) :
    MetFree l (⟨"java/lang/Math", "max", "(II)I"⟩ : MethodName) (head1 (Jvm.Cond.code (⟨"java/lang/Math", "max", "(II)I"⟩ : MethodName) jdk_29_method_65_code 2 (some .int) :: ws) ({ frames := 0, cells := 0, slots := 0, locals := 0 } : Room)) (fun a U => a = #[(.int xa), (.int xb)] ∧ Z.Warmed39 U.vm ∧ U.heap = h0) (fun _ _ _ _ _ => True) (fun _ U o U' => ∃ v L, o = .returned v ∧ Q1 Z xa xb h0 n0 v U'.heap L ∧ FrameEnd U o U' L ({ frames := 0, cells := 0, slots := 0, locals := 0 } : Room).cells ({ frames := 0, cells := 0, slots := 0, locals := 0 } : Room).slots) := by
  refine MetFree.of_bodySF (Jvm.Free.JP.mathPlain rfl (by decide +kernel)) hisR ?_
  intro p e s m args below meth c s₁ Bd hml0 hP hK
  obtain ⟨rfl, hZ, hh⟩ := hP
  have hx := Bd.exec
  have hby := Bd.bytes
  have hml : c.maxLocals = 2 := hml0
  have hown : s.vm.findClass "java/lang/Math" = some m.cls := findClass_of_methodNamed Bd.named
  have hnm := (name_of_methodNamed Bd.named Bd.method).1
  have hlk : meth.locks = false := BodyLoose.notSynchronized Bd
  have X0 : Stand p l e ({ frames := 0, cells := 0, slots := 0, locals := 0 } : Room) s m #[(.int xa), (.int xb)] below meth c s₁ [] 0 0 := Stand.of_body Bd
  have e0 : s₁.heap = h0 := by rw [← hh, Bd.state]; rfl
  have N0 := Fr.nil n0
  show W.Gl p e below s (Q1 Z xa xb h0 n0) ({ frames := 0, cells := 0, slots := 0, locals := 0 } : Room).cells ({ frames := 0, cells := 0, slots := 0, locals := 0 } : Room).slots s₁ (entryFrame m #[(.int xa), (.int xb)] 2)
  refine W.cast (ef_1 m xa xb) ?_
  refine W.s1 (mkF m 1 #[.val (.int xa), .val (.int xb)] [(.int xa)]) (fun _ kx_ => XS.iloadN X0.here hx rfl (hb hby d1_0) rfl kx_) ?_
  refine W.s1 (mkF m 2 #[.val (.int xa), .val (.int xb)] [(.int xb), (.int xa)]) (fun _ kx_ => XS.iloadN X0.here hx rfl (hb hby d1_1) rfl kx_) ?_
  refine W.icmp X0 hx (hb hby d1_2) (pc' := 9) (pc'' := 5) (by decide) (by decide) rfl (fun (c2 : xa < xb) => ?_) (fun (c2 : ¬ xa < xb) => ?_)
  · refine W.s1 (mkF m 10 #[.val (.int xa), .val (.int xb)] [(.int xb)]) (fun _ kx_ => XS.iloadN X0.here hx rfl (hb hby d1_9) rfl kx_) ?_
    exact W.retI X0 hx hlk Bd.returns (hb hby d1_10) (by show Q1 Z xa xb h0 n0 _ s₁.heap _; rw [e0]; exact ⟨_, rfl, N0, rfl, Or.inr ⟨rfl, c2⟩⟩) (by decide) (by decide)
  · refine W.s1 (mkF m 6 #[.val (.int xa), .val (.int xb)] [(.int xa)]) (fun _ kx_ => XS.iloadN X0.here hx rfl (hb hby d1_5) rfl kx_) ?_
    refine W.s1 (mkF m 10 #[.val (.int xa), .val (.int xb)] [(.int xa)]) (fun _ kx_ => XS.goto X0.here hx rfl (pc0 := 6) (pc' := 10) rfl (hb hby d1_6) (by decide) (by decide) kx_) ?_
    exact W.retI X0 hx hlk Bd.returns (hb hby d1_10) (by show Q1 Z xa xb h0 n0 _ s₁.heap _; rw [e0]; exact ⟨_, rfl, N0, rfl, Or.inl ⟨rfl, c2⟩⟩) (by decide) (by decide)
theorem ef_4 (m : MethodId) (x0 : Addr) (x1 : Int32) : entryFrame m #[(.ref x0), (.int x1)] 2 = mkF m 0 #[.val (.ref x0), .val (.int x1)] [] := by first | (simp [entryFrame, mkF, argsToLocals, Value.category]; done) | rfl
theorem d4_0 : decode prog_96_method_4_code 0 = .ok (.aload_n 0, 1) := by decide +kernel
theorem d4_1 : decode prog_96_method_4_code 1 = .ok (.invokevirtual 19, 3) := by decide +kernel
theorem pd_0 : parseMethodDescriptor "()J" = some ⟨[], some .long⟩ := by decide +kernel
theorem d4_4 : decode prog_96_method_4_code 4 = .ok (.bipush 32, 2) := by decide +kernel
theorem d4_6 : decode prog_96_method_4_code 6 = .ok (.lushr, 1) := by decide +kernel
theorem d4_7 : decode prog_96_method_4_code 7 = .ok (.iload_n 1, 1) := by decide +kernel
theorem d4_8 : decode prog_96_method_4_code 8 = .ok (.i2l, 1) := by decide +kernel
theorem d4_9 : decode prog_96_method_4_code 9 = .ok (.lmul, 1) := by decide +kernel
theorem d4_10 : decode prog_96_method_4_code 10 = .ok (.bipush 32, 2) := by decide +kernel
theorem d4_12 : decode prog_96_method_4_code 12 = .ok (.lushr, 1) := by decide +kernel
theorem d4_13 : decode prog_96_method_4_code 13 = .ok (.l2i, 1) := by decide +kernel
theorem d4_14 : decode prog_96_method_4_code 14 = .ok (.ireturn, 1) := by decide +kernel
def Q4 (Z : State) (ao : Addr) (xk : Int32) (ys : Int64) (h0 : Heap) (n0 : Nat) (v : Option Value) (h : Heap) (L : List Loc) : Prop := v = some (.int (own_below (own_mix (ys + (-7046029254386353131 : Int64))) xk)) ∧ Fr n0 L ∧ Keep h0 h [ao] ∧ Fld Z h ao "com/example/hybridge/hybridge/simulation/SplitMix64" "state" "J" (.long (ys + (-7046029254386353131 : Int64)))
set_option maxRecDepth 65536 in
set_option maxHeartbeats 40000000 in
theorem rm4 (l : Launch) (Z : State) (a0 : Array Value) (hw : ∀ d ∈ tables_1, d.before a0 Z = true) (ws : List Jvm.Cond) (ao : Addr) (xk : Int32) (ys : Int64) (h0 : Heap) (n0 : Nat) (Z0 : n0 ≤ h0.size) (F0 : Fld Z h0 ao "com/example/hybridge/hybridge/simulation/SplitMix64" "state" "J" (.long ys)) (E0 : Exa Z h0 ao "com/example/hybridge/hybridge/simulation/SplitMix64") (ga : n0 ≤ ao) :
    MetFree l (⟨"com/example/hybridge/hybridge/simulation/SplitMix64", "below", "(I)I"⟩ : MethodName) (head1 (Jvm.Cond.code (⟨"com/example/hybridge/hybridge/simulation/SplitMix64", "below", "(I)I"⟩ : MethodName) prog_96_method_4_code 2 (some .int) :: ws) ({ frames := 1, cells := 0, slots := 0, locals := 14 } : Room)) (fun a U => a = #[(.ref ao), (.int xk)] ∧ Z.Warmed39 U.vm ∧ U.heap = h0) (fun _ _ _ _ _ => True) (fun _ U o U' => ∃ v L, o = .returned v ∧ Q4 Z ao xk ys h0 n0 v U'.heap L ∧ FrameEnd U o U' L ({ frames := 1, cells := 0, slots := 0, locals := 14 } : Room).cells ({ frames := 1, cells := 0, slots := 0, locals := 14 } : Room).slots) := by
  refine MetFree.of_bodySF (plainFor_of_name pn_0) hisR ?_
  intro p e s m args below meth c s₁ Bd hml0 hP hK
  obtain ⟨rfl, hZ, hh⟩ := hP
  have hx := Bd.exec
  have hby := Bd.bytes
  have hml : c.maxLocals = 2 := hml0
  have hown : s.vm.findClass "com/example/hybridge/hybridge/simulation/SplitMix64" = some m.cls := findClass_of_methodNamed Bd.named
  have hnm := (name_of_methodNamed Bd.named Bd.method).1
  have hlk : meth.locks = false := BodyLoose.notSynchronized Bd
  have X0 : Stand p l e ({ frames := 1, cells := 0, slots := 0, locals := 14 } : Room) s m #[(.ref ao), (.int xk)] below meth c s₁ [] 0 0 := Stand.of_body Bd
  have e0 : s₁.heap = h0 := by rw [← hh, Bd.state]; rfl
  have N0 := Fr.nil n0
  show W.Gl p e below s (Q4 Z ao xk ys h0 n0) ({ frames := 1, cells := 0, slots := 0, locals := 14 } : Room).cells ({ frames := 1, cells := 0, slots := 0, locals := 14 } : Room).slots s₁ (entryFrame m #[(.ref ao), (.int xk)] 2)
  refine W.cast (ef_4 m ao xk) ?_
  have K0 : Keep h0 h0 [ao] := Keep.refl h0 [ao]
  refine W.s1 (mkF m 1 #[.val (.ref ao), .val (.int xk)] [(.ref ao)]) (fun _ kx_ => XS.aloadN X0.here hx rfl (hb hby d4_0) rfl rfl kx_) ?_
  obtain ⟨cq101, kq101, q101a, q101b, q101c⟩ := isOf hZ e0 E0
  obtain ⟨_, _, ⟨T101, L101, k101, n101⟩, -, X101, ⟨Lc101, hQ101, l101, y101, z101⟩, st101⟩ := X0.virtualBack hx (y := (⟨"com/example/hybridge/hybridge/simulation/SplitMix64", "nextLong", "()J"⟩ : MethodName)) (z := (⟨"com/example/hybridge/hybridge/simulation/SplitMix64", "nextLong", "()J"⟩ : MethodName)) hown (mvT hZ (hw _ (List.mem_of_getElem? (i := 21) rfl))) (mvT hZ (hw _ (List.mem_of_getElem? (i := 22) rfl))) (notFace_of_selects (args := #[]) (mvT hZ (hw _ (List.mem_of_getElem? (i := 24) rfl)))) (mvT hZ (hw _ (List.mem_of_getElem? (i := 24) rfl))) (mvT hZ (hw _ (List.mem_of_getElem? (i := 23) rfl))) (by decide) (backOf (W := 0) (rm5 l Z a0 hw [] ao ys h0 n0 Z0 F0 E0 ga) hZ (hw _ (List.mem_of_getElem? (i := 25) rfl)) (hw _ (List.mem_of_getElem? (i := 7) rfl)) (by decide) (by decide)) q101a q101c (g := (mkF m 1 #[.val (.ref ao), .val (.int xk)] [(.ref ao)])) rfl (by rw [hml]; rfl) (Steps.refl _) (argsL := []) (rest := []) (lenOf pd_0 rfl) rfl (by show 2 * 0 + _ ≤ _; exact Nat.le_of_eq rfl) (hb hby d4_1) (fun _ _ => ⟨rfl, e0, (by decide : 0 + 0 ≤ _), (by decide : 0 + 0 ≤ _)⟩)
  dsimp only [Pt.U, Pt.locs, Pt.cells, Pt.slots] at X101 l101 y101 z101 st101 hQ101
  subst l101 y101 z101
  obtain ⟨h101, e101⟩ : ∃ z, T101.heap = z := ⟨_, rfl⟩
  rw [e101] at hQ101
  obtain ⟨rfl, Nq101, Kq101, F101⟩ := hQ101
  have N101 := Fr.app N0 Nq101
  have Z101 : n0 ≤ h101.size := Nat.le_trans Z0 Kq101.1
  have K101 : Keep h0 h101 [ao] := K0.trans Kq101 (allS (Or.inl (List.mem_of_getElem? (i := 0) rfl)) all0)
  have f103 := E0.keep Kq101
  refine W.s3 (mkF m 4 #[.val (.ref ao), .val (.int xk)] [(.long (own_mix (ys + (-7046029254386353131 : Int64))))]) st101 ?_
  refine W.s1 (mkF m 6 #[.val (.ref ao), .val (.int xk)] [(.int (32 : Int32)), (.long (own_mix (ys + (-7046029254386353131 : Int64))))]) (fun _ kx_ => XS.bipush X101.here hx rfl (hb hby d4_4) kx_) ?_
  refine W.s1 (mkF m 7 #[.val (.ref ao), .val (.int xk)] [(.long (((own_mix (ys + (-7046029254386353131 : Int64))).toUInt64 >>> ((32 : Int32) &&& 0x3f).toInt64.toUInt64).toInt64))]) (fun _ kx_ => XS.lushr X101.here hx rfl (hb hby d4_6) rfl kx_) ?_
  refine W.s1 (mkF m 8 #[.val (.ref ao), .val (.int xk)] [(.int xk), (.long (((own_mix (ys + (-7046029254386353131 : Int64))).toUInt64 >>> ((32 : Int32) &&& 0x3f).toInt64.toUInt64).toInt64))]) (fun _ kx_ => XS.iloadN X101.here hx rfl (hb hby d4_7) rfl kx_) ?_
  refine W.s1 (mkF m 9 #[.val (.ref ao), .val (.int xk)] [(.long (xk.toInt64)), (.long (((own_mix (ys + (-7046029254386353131 : Int64))).toUInt64 >>> ((32 : Int32) &&& 0x3f).toInt64.toUInt64).toInt64))]) (fun _ kx_ => XS.i2l X101.here hx rfl (hb hby d4_8) rfl kx_) ?_
  refine W.s1 (mkF m 10 #[.val (.ref ao), .val (.int xk)] [(.long ((((own_mix (ys + (-7046029254386353131 : Int64))).toUInt64 >>> ((32 : Int32) &&& 0x3f).toInt64.toUInt64).toInt64) * (xk.toInt64)))]) (fun _ kx_ => XS.lmul X101.here hx rfl (hb hby d4_9) rfl kx_) ?_
  refine W.s1 (mkF m 12 #[.val (.ref ao), .val (.int xk)] [(.int (32 : Int32)), (.long ((((own_mix (ys + (-7046029254386353131 : Int64))).toUInt64 >>> ((32 : Int32) &&& 0x3f).toInt64.toUInt64).toInt64) * (xk.toInt64)))]) (fun _ kx_ => XS.bipush X101.here hx rfl (hb hby d4_10) kx_) ?_
  refine W.s1 (mkF m 13 #[.val (.ref ao), .val (.int xk)] [(.long ((((((own_mix (ys + (-7046029254386353131 : Int64))).toUInt64 >>> ((32 : Int32) &&& 0x3f).toInt64.toUInt64).toInt64) * (xk.toInt64)).toUInt64 >>> ((32 : Int32) &&& 0x3f).toInt64.toUInt64).toInt64))]) (fun _ kx_ => XS.lushr X101.here hx rfl (hb hby d4_12) rfl kx_) ?_
  refine W.s1 (mkF m 14 #[.val (.ref ao), .val (.int xk)] [(.int (((((((own_mix (ys + (-7046029254386353131 : Int64))).toUInt64 >>> ((32 : Int32) &&& 0x3f).toInt64.toUInt64).toInt64) * (xk.toInt64)).toUInt64 >>> ((32 : Int32) &&& 0x3f).toInt64.toUInt64).toInt64).toInt32))]) (fun _ kx_ => XS.l2i X101.here hx rfl (hb hby d4_13) rfl kx_) ?_
  exact W.retI X101 hx hlk Bd.returns (hb hby d4_14) (by show Q4 Z ao xk ys h0 n0 _ T101.heap _; rw [e101]; exact ⟨rfl, N101, K101, F101⟩) (by decide) (by decide)
theorem pn_1 : plainName "com/example/hybridge/hybridge/simulation/SplitMix64BelowPinLaw" = true := by first | (simp [plainName, overriddenIn]; done) | decide +kernel
theorem ef_0 (m : MethodId) (x0 : Int64) (x1 : Int32) : entryFrame m #[(.long x0), (.int x1)] maxLocals = mkF m 0 #[.val (.long x0), .second, .val (.int x1), .unset, .unset, .unset, .unset, .unset, .unset, .unset, .unset, .unset, .unset, .unset, .unset, .unset] [] := by first | (simp [entryFrame, mkF, argsToLocals, Value.category, maxLocals]; done) | rfl
theorem pd_1 : parseMethodDescriptor "(II)I" = some ⟨[.int, .int], some .int⟩ := by decide +kernel
theorem pd_2 : parseMethodDescriptor "(J)V" = some ⟨[.long], none⟩ := by decide +kernel
theorem pd_3 : parseMethodDescriptor "(I)I" = some ⟨[.int], some .int⟩ := by decide +kernel
def Q0 (Z : State) (ys : Int64) (xc : Int32) (h0 : Heap) (n0 : Nat) (v : Option Value) (h : Heap) (L : List Loc) : Prop := v = some (.int 1) ∧ Fr n0 L
set_option maxRecDepth 65536 in
set_option maxHeartbeats 40000000 in
theorem rm0 (l : Launch) (Z : State) (a0 : Array Value) (hw : ∀ d ∈ tables_1, d.before a0 Z = true) (ws : List Jvm.Cond) (ys : Int64) (xc : Int32) (h0 : Heap) (n0 : Nat) (Z0 : n0 ≤ h0.size) :
    MetFree l x (head1 (Jvm.Cond.code x code maxLocals ret :: ws) room_1) (fun a U => a = #[(.long ys), (.int xc)] ∧ Z.Warmed39 U.vm ∧ U.heap = h0) (fun _ _ _ _ _ => True) (fun _ U o U' => ∃ v L, o = .returned v ∧ Q0 Z ys xc h0 n0 v U'.heap L ∧ FrameEnd U o U' L 16 128) := by
  refine MetFree.of_bodySF (plainFor_of_name pn_1) hisR ?_
  intro p e s m args below meth c s₁ Bd hml0 hP hK
  obtain ⟨rfl, hZ, hh⟩ := hP
  have hx := Bd.exec
  have hby := Bd.bytes
  have hml : c.maxLocals = 16 := hml0
  have hown : s.vm.findClass "com/example/hybridge/hybridge/simulation/SplitMix64BelowPinLaw" = some m.cls := findClass_of_methodNamed Bd.named
  have hnm := (name_of_methodNamed Bd.named Bd.method).1
  have hlk : meth.locks = false := BodyLoose.notSynchronized Bd
  have X0 : Stand p l e room_1 s m #[(.long ys), (.int xc)] below meth c s₁ [] 0 0 := Stand.of_body Bd
  have e0 : s₁.heap = h0 := by rw [← hh, Bd.state]; rfl
  have N0 := Fr.nil n0
  show W.Gl p e below s (Q0 Z ys xc h0 n0) 16 128 s₁ (entryFrame m #[(.long ys), (.int xc)] maxLocals)
  refine W.cast (ef_0 m ys xc) ?_
  refine W.s1 (mkF m 1 #[.val (.long ys), .second, .val (.int xc), .unset, .unset, .unset, .unset, .unset, .unset, .unset, .unset, .unset, .unset, .unset, .unset, .unset] [(.int (1 : Int32))]) (fun _ kx_ => XS.iconst X0.here hx rfl (hb hby at_0) kx_) ?_
  refine W.s1 (mkF m 2 #[.val (.long ys), .second, .val (.int xc), .unset, .unset, .unset, .unset, .unset, .unset, .unset, .unset, .unset, .unset, .unset, .unset, .unset] [(.int xc), (.int (1 : Int32))]) (fun _ kx_ => XS.iloadN X0.here hx rfl (hb hby at_1) rfl kx_) ?_
  refine W.s1 (mkF m 4 #[.val (.long ys), .second, .val (.int xc), .unset, .unset, .unset, .unset, .unset, .unset, .unset, .unset, .unset, .unset, .unset, .unset, .unset] [(.int (2147483647 : Int32)), (.int xc), (.int (1 : Int32))]) (fun _ kx_ => X0.ldcInt hx hown (mvT hZ (hw _ (List.mem_of_getElem? (i := 0) rfl))) (g := (mkF m 2 #[.val (.long ys), .second, .val (.int xc), .unset, .unset, .unset, .unset, .unset, .unset, .unset, .unset, .unset, .unset, .unset, .unset, .unset] [(.int xc), (.int (1 : Int32))])) rfl (hb hby at_2) _ kx_) ?_
  refine W.s1 (mkF m 5 #[.val (.long ys), .second, .val (.int xc), .unset, .unset, .unset, .unset, .unset, .unset, .unset, .unset, .unset, .unset, .unset, .unset, .unset] [(.int (xc &&& (2147483647 : Int32))), (.int (1 : Int32))]) (fun _ kx_ => XS.iand X0.here hx rfl (hb hby at_4) rfl kx_) ?_
  obtain ⟨_, _, ⟨T101, L101, k101, n101⟩, -, X101, ⟨Lc101, hQ101, l101, y101, z101⟩, st101⟩ := Jvm.LawKit.callS X0 hx (y := (⟨"java/lang/Math", "max", "(II)I"⟩ : MethodName)) hown (mvT hZ (hw _ (List.mem_of_getElem? (i := 1) rfl))) (mvT hZ (hw _ (List.mem_of_getElem? (i := 2) rfl))) (mvT hZ (hw _ (List.mem_of_getElem? (i := 3) rfl))) (mvT hZ (hw _ (List.mem_of_getElem? (i := 4) rfl))) (by decide) (backOf (W := 0) (rm1 l Z a0 hw [] (1 : Int32) (xc &&& (2147483647 : Int32)) h0 n0 Z0 ) hZ (hw _ (List.mem_of_getElem? (i := 4) rfl)) (hw _ (List.mem_of_getElem? (i := 3) rfl)) (by decide) (by decide)) (g := (mkF m 5 #[.val (.long ys), .second, .val (.int xc), .unset, .unset, .unset, .unset, .unset, .unset, .unset, .unset, .unset, .unset, .unset, .unset, .unset] [(.int (xc &&& (2147483647 : Int32))), (.int (1 : Int32))])) rfl (by rw [hml]; rfl) (argsL := [(.int (1 : Int32)), (.int (xc &&& (2147483647 : Int32)))]) (rest := []) (lenOf pd_1 rfl) rfl (by show 2 * 0 + _ ≤ _; exact Nat.le_of_eq rfl) (hb hby at_5) (fun _ _ => ⟨rfl, e0, (by decide : 0 + 0 ≤ _), (by decide : 0 + 0 ≤ _)⟩)
  dsimp only [Pt.U, Pt.locs, Pt.cells, Pt.slots] at X101 l101 y101 z101 st101 hQ101
  subst l101 y101 z101
  obtain ⟨xk, rfl, Nq101, eq101, hxk⟩ := hQ101
  have N101 := Fr.app N0 Nq101
  have hk1 : 1 ≤ xk.toInt := by rcases hxk with ⟨rfl, q⟩ | ⟨rfl, q⟩; exact (by decide); rw [Int32.lt_iff_toInt_lt] at q; have e1 : (1 : Int32).toInt = 1 := rfl; omega
  refine W.s2 (mkF m 8 #[.val (.long ys), .second, .val (.int xc), .unset, .unset, .unset, .unset, .unset, .unset, .unset, .unset, .unset, .unset, .unset, .unset, .unset] [(.int xk)]) st101 ?_
  refine W.s1 (mkF m 9 #[.val (.long ys), .second, .val (.int xc), .val (.int xk), .unset, .unset, .unset, .unset, .unset, .unset, .unset, .unset, .unset, .unset, .unset, .unset] []) (fun _ kx_ => XS.istoreN X101.here hx rfl (hb hby at_8) rfl (l' := #[.val (.long ys), .second, .val (.int xc), .val (.int xk), .unset, .unset, .unset, .unset, .unset, .unset, .unset, .unset, .unset, .unset, .unset, .unset]) rfl kx_) ?_
  refine W.newo X101 hx hZ hown (hw _ (List.mem_of_getElem? (i := 5) rfl)) (hw _ (List.mem_of_getElem? (i := 6) rfl)) (hw _ (List.mem_of_getElem? (i := 7) rfl)) eq101 (hb hby at_9) (by decide) (by decide) (pc' := 12) rfl (fun T102 h102 b102 X102 e102 E102 g102 A102 D102 => ?_)
  have ge102 : n0 ≤ b102 := Nat.le_trans Z0 (Nat.le_of_eq g102.symm)
  have Z102 : n0 ≤ h102.size := Nat.le_trans Z0 E102.1
  have f103 : Fld Z h102 b102 "com/example/hybridge/hybridge/simulation/SplitMix64" "state" "J" (.long (0 : Int64)) := D102 (Or.inl (hw _ (List.mem_of_getElem? (i := 15) rfl))) (ty := .long) (by decide)
  refine W.s1 (mkF m 13 #[.val (.long ys), .second, .val (.int xc), .val (.int xk), .unset, .unset, .unset, .unset, .unset, .unset, .unset, .unset, .unset, .unset, .unset, .unset] [(.ref b102), (.ref b102)]) (fun _ kx_ => XS.dup X102.here hx rfl (hb hby at_12) rfl rfl kx_) ?_
  refine W.s1 (mkF m 14 #[.val (.long ys), .second, .val (.int xc), .val (.int xk), .unset, .unset, .unset, .unset, .unset, .unset, .unset, .unset, .unset, .unset, .unset, .unset] [(.long ys), (.ref b102), (.ref b102)]) (fun _ kx_ => XS.lloadN X102.here hx rfl (hb hby at_13) rfl kx_) ?_
  obtain ⟨_, _, ⟨T104, L104, k104, n104⟩, -, X104, ⟨Lc104, hQ104, l104, y104, z104⟩, st104⟩ := X102.specialBack hx (y := (⟨"com/example/hybridge/hybridge/simulation/SplitMix64", "<init>", "(J)V"⟩ : MethodName)) rfl hown (mvT hZ (hw _ (List.mem_of_getElem? (i := 8) rfl))) (mvT hZ (hw _ (List.mem_of_getElem? (i := 9) rfl))) (mvT hZ (hw _ (List.mem_of_getElem? (i := 10) rfl))) (by decide) (backOf (W := 1) (rm2 l Z a0 hw [] b102 ys (.long (0 : Int64)) h102 n0 Z102 f103 A102 ge102) hZ (hw _ (List.mem_of_getElem? (i := 10) rfl)) (hw _ (List.mem_of_getElem? (i := 7) rfl)) (by decide) (by decide)) (g := (mkF m 14 #[.val (.long ys), .second, .val (.int xc), .val (.int xk), .unset, .unset, .unset, .unset, .unset, .unset, .unset, .unset, .unset, .unset, .unset, .unset] [(.long ys), (.ref b102), (.ref b102)])) rfl (by rw [hml]; rfl) (Steps.refl _) (a := b102) (argsL := [(.long ys)]) (rest := [(.ref b102)]) (lenOf pd_2 rfl) rfl (by show 2 * 0 + _ ≤ _; exact Nat.le_of_eq rfl) (hb hby at_14) (fun _ _ => ⟨rfl, e102, (by decide : 1 + 0 ≤ _), (by decide : 1 + 0 ≤ _)⟩)
  dsimp only [Pt.U, Pt.locs, Pt.cells, Pt.slots] at X104 l104 y104 z104 st104 hQ104
  subst l104 y104 z104
  obtain ⟨h104, e104⟩ : ∃ z, T104.heap = z := ⟨_, rfl⟩
  rw [e104] at hQ104
  obtain ⟨rfl, Nq104, Kq104, F104⟩ := hQ104
  have N104 := Fr.app N101 Nq104
  have Z104 : n0 ≤ h104.size := Nat.le_trans Z102 Kq104.1
  have f105 := A102.keep Kq104
  refine W.s3 (mkF m 17 #[.val (.long ys), .second, .val (.int xc), .val (.int xk), .unset, .unset, .unset, .unset, .unset, .unset, .unset, .unset, .unset, .unset, .unset, .unset] [(.ref b102)]) st104 ?_
  refine W.s1 (mkF m 19 #[.val (.long ys), .second, .val (.int xc), .val (.int xk), .val (.ref b102), .unset, .unset, .unset, .unset, .unset, .unset, .unset, .unset, .unset, .unset, .unset] []) (fun _ kx_ => XS.astore X104.here hx rfl (hb hby at_17) rfl rfl (l' := #[.val (.long ys), .second, .val (.int xc), .val (.int xk), .val (.ref b102), .unset, .unset, .unset, .unset, .unset, .unset, .unset, .unset, .unset, .unset, .unset]) rfl kx_) ?_
  refine W.newo X104 hx hZ hown (hw _ (List.mem_of_getElem? (i := 5) rfl)) (hw _ (List.mem_of_getElem? (i := 6) rfl)) (hw _ (List.mem_of_getElem? (i := 7) rfl)) e104 (hb hby at_19) (by decide) (by decide) (pc' := 22) rfl (fun T107 h107 b107 X107 e107 E107 g107 A107 D107 => ?_)
  have ne108 : b102 ≠ b107 := Nat.ne_of_lt (Nat.lt_of_lt_of_le f105.lt (Nat.le_of_eq g107.symm))
  have ge107 : n0 ≤ b107 := Nat.le_trans Z104 (Nat.le_of_eq g107.symm)
  have Z107 : n0 ≤ h107.size := Nat.le_trans Z104 E107.1
  have f109 := f105.ext E107
  have f110 := F104.ext E107
  have f111 : Fld Z h107 b107 "com/example/hybridge/hybridge/simulation/SplitMix64" "state" "J" (.long (0 : Int64)) := D107 (Or.inl (hw _ (List.mem_of_getElem? (i := 15) rfl))) (ty := .long) (by decide)
  refine W.s1 (mkF m 23 #[.val (.long ys), .second, .val (.int xc), .val (.int xk), .val (.ref b102), .unset, .unset, .unset, .unset, .unset, .unset, .unset, .unset, .unset, .unset, .unset] [(.ref b107), (.ref b107)]) (fun _ kx_ => XS.dup X107.here hx rfl (hb hby at_22) rfl rfl kx_) ?_
  refine W.s1 (mkF m 24 #[.val (.long ys), .second, .val (.int xc), .val (.int xk), .val (.ref b102), .unset, .unset, .unset, .unset, .unset, .unset, .unset, .unset, .unset, .unset, .unset] [(.long ys), (.ref b107), (.ref b107)]) (fun _ kx_ => XS.lloadN X107.here hx rfl (hb hby at_23) rfl kx_) ?_
  obtain ⟨_, _, ⟨T112, L112, k112, n112⟩, -, X112, ⟨Lc112, hQ112, l112, y112, z112⟩, st112⟩ := X107.specialBack hx (y := (⟨"com/example/hybridge/hybridge/simulation/SplitMix64", "<init>", "(J)V"⟩ : MethodName)) rfl hown (mvT hZ (hw _ (List.mem_of_getElem? (i := 8) rfl))) (mvT hZ (hw _ (List.mem_of_getElem? (i := 9) rfl))) (mvT hZ (hw _ (List.mem_of_getElem? (i := 10) rfl))) (by decide) (backOf (W := 1) (rm2 l Z a0 hw [] b107 ys (.long (0 : Int64)) h107 n0 Z107 f111 A107 ge107) hZ (hw _ (List.mem_of_getElem? (i := 10) rfl)) (hw _ (List.mem_of_getElem? (i := 7) rfl)) (by decide) (by decide)) (g := (mkF m 24 #[.val (.long ys), .second, .val (.int xc), .val (.int xk), .val (.ref b102), .unset, .unset, .unset, .unset, .unset, .unset, .unset, .unset, .unset, .unset, .unset] [(.long ys), (.ref b107), (.ref b107)])) rfl (by rw [hml]; rfl) (Steps.refl _) (a := b107) (argsL := [(.long ys)]) (rest := [(.ref b107)]) (lenOf pd_2 rfl) rfl (by show 2 * 0 + _ ≤ _; exact Nat.le_of_eq rfl) (hb hby at_24) (fun _ _ => ⟨rfl, e107, (by decide : 2 + 0 ≤ _), (by decide : 2 + 0 ≤ _)⟩)
  dsimp only [Pt.U, Pt.locs, Pt.cells, Pt.slots] at X112 l112 y112 z112 st112 hQ112
  subst l112 y112 z112
  obtain ⟨h112, e112⟩ : ∃ z, T112.heap = z := ⟨_, rfl⟩
  rw [e112] at hQ112
  obtain ⟨rfl, Nq112, Kq112, F112⟩ := hQ112
  have N112 := Fr.app N104 Nq112
  have Z112 : n0 ≤ h112.size := Nat.le_trans Z107 Kq112.1
  have f113 := f109.keep Kq112
  have f114 := f110.keep Kq112 (ninS ne108 nin0)
  have f115 := A107.keep Kq112
  refine W.s3 (mkF m 27 #[.val (.long ys), .second, .val (.int xc), .val (.int xk), .val (.ref b102), .unset, .unset, .unset, .unset, .unset, .unset, .unset, .unset, .unset, .unset, .unset] [(.ref b107)]) st112 ?_
  refine W.s1 (mkF m 29 #[.val (.long ys), .second, .val (.int xc), .val (.int xk), .val (.ref b102), .val (.ref b107), .unset, .unset, .unset, .unset, .unset, .unset, .unset, .unset, .unset, .unset] []) (fun _ kx_ => XS.astore X112.here hx rfl (hb hby at_27) rfl rfl (l' := #[.val (.long ys), .second, .val (.int xc), .val (.int xk), .val (.ref b102), .val (.ref b107), .unset, .unset, .unset, .unset, .unset, .unset, .unset, .unset, .unset, .unset]) rfl kx_) ?_
  refine W.s1 (mkF m 31 #[.val (.long ys), .second, .val (.int xc), .val (.int xk), .val (.ref b102), .val (.ref b107), .unset, .unset, .unset, .unset, .unset, .unset, .unset, .unset, .unset, .unset] [(.ref b102)]) (fun _ kx_ => XS.aload X112.here hx rfl (hb hby at_29) rfl rfl kx_) ?_
  refine W.s1 (mkF m 32 #[.val (.long ys), .second, .val (.int xc), .val (.int xk), .val (.ref b102), .val (.ref b107), .unset, .unset, .unset, .unset, .unset, .unset, .unset, .unset, .unset, .unset] [(.int xk), (.ref b102)]) (fun _ kx_ => XS.iloadN X112.here hx rfl (hb hby at_31) rfl kx_) ?_
  obtain ⟨cq117, kq117, q117a, q117b, q117c⟩ := isOf hZ e112 f113
  obtain ⟨_, _, ⟨T117, L117, k117, n117⟩, -, X117, ⟨Lc117, hQ117, l117, y117, z117⟩, st117⟩ := X112.virtualBack hx (y := (⟨"com/example/hybridge/hybridge/simulation/SplitMix64", "below", "(I)I"⟩ : MethodName)) (z := (⟨"com/example/hybridge/hybridge/simulation/SplitMix64", "below", "(I)I"⟩ : MethodName)) hown (mvT hZ (hw _ (List.mem_of_getElem? (i := 16) rfl))) (mvT hZ (hw _ (List.mem_of_getElem? (i := 17) rfl))) (notFace_of_selects (args := #[]) (mvT hZ (hw _ (List.mem_of_getElem? (i := 19) rfl)))) (mvT hZ (hw _ (List.mem_of_getElem? (i := 19) rfl))) (mvT hZ (hw _ (List.mem_of_getElem? (i := 18) rfl))) (by decide) (backOf (W := 0) (rm4 l Z a0 hw [] b102 xk ys h112 n0 Z112 f114 f113 ge102) hZ (hw _ (List.mem_of_getElem? (i := 20) rfl)) (hw _ (List.mem_of_getElem? (i := 7) rfl)) (by decide) (by decide)) q117a q117c (g := (mkF m 32 #[.val (.long ys), .second, .val (.int xc), .val (.int xk), .val (.ref b102), .val (.ref b107), .unset, .unset, .unset, .unset, .unset, .unset, .unset, .unset, .unset, .unset] [(.int xk), (.ref b102)])) rfl (by rw [hml]; rfl) (Steps.refl _) (argsL := [(.int xk)]) (rest := []) (lenOf pd_3 rfl) rfl (by show 2 * 0 + _ ≤ _; exact Nat.le_of_eq rfl) (hb hby at_32) (fun _ _ => ⟨rfl, e112, (by decide : 2 + 0 ≤ _), (by decide : 2 + 0 ≤ _)⟩)
  dsimp only [Pt.U, Pt.locs, Pt.cells, Pt.slots] at X117 l117 y117 z117 st117 hQ117
  subst l117 y117 z117
  obtain ⟨h117, e117⟩ : ∃ z, T117.heap = z := ⟨_, rfl⟩
  rw [e117] at hQ117
  obtain ⟨rfl, Nq117, Kq117, F117⟩ := hQ117
  have N117 := Fr.app N112 Nq117
  have Z117 : n0 ≤ h117.size := Nat.le_trans Z112 Kq117.1
  have f118 := f113.keep Kq117
  have f120 := f115.keep Kq117
  have f121 := F112.keep Kq117 (ninS (Ne.symm ne108) nin0)
  refine W.s3 (mkF m 35 #[.val (.long ys), .second, .val (.int xc), .val (.int xk), .val (.ref b102), .val (.ref b107), .unset, .unset, .unset, .unset, .unset, .unset, .unset, .unset, .unset, .unset] [(.int (own_below (own_mix (ys + (-7046029254386353131 : Int64))) xk))]) st117 ?_
  generalize hg_xr : (own_below (own_mix (ys + (-7046029254386353131 : Int64))) xk) = xr
  refine W.s1 (mkF m 37 #[.val (.long ys), .second, .val (.int xc), .val (.int xk), .val (.ref b102), .val (.ref b107), .val (.int xr), .unset, .unset, .unset, .unset, .unset, .unset, .unset, .unset, .unset] []) (fun _ kx_ => XS.istore X117.here hx rfl (hb hby at_35) rfl (l' := #[.val (.long ys), .second, .val (.int xc), .val (.int xk), .val (.ref b102), .val (.ref b107), .val (.int xr), .unset, .unset, .unset, .unset, .unset, .unset, .unset, .unset, .unset]) rfl kx_) ?_
  refine W.s1 (mkF m 39 #[.val (.long ys), .second, .val (.int xc), .val (.int xk), .val (.ref b102), .val (.ref b107), .val (.int xr), .unset, .unset, .unset, .unset, .unset, .unset, .unset, .unset, .unset] [(.ref b107)]) (fun _ kx_ => XS.aload X117.here hx rfl (hb hby at_37) rfl rfl kx_) ?_
  obtain ⟨cq122, kq122, q122a, q122b, q122c⟩ := isOf hZ e117 f120
  obtain ⟨_, _, ⟨T122, L122, k122, n122⟩, -, X122, ⟨Lc122, hQ122, l122, y122, z122⟩, st122⟩ := X117.virtualBack hx (y := (⟨"com/example/hybridge/hybridge/simulation/SplitMix64", "nextLong", "()J"⟩ : MethodName)) (z := (⟨"com/example/hybridge/hybridge/simulation/SplitMix64", "nextLong", "()J"⟩ : MethodName)) hown (mvT hZ (hw _ (List.mem_of_getElem? (i := 29) rfl))) (mvT hZ (hw _ (List.mem_of_getElem? (i := 22) rfl))) (notFace_of_selects (args := #[]) (mvT hZ (hw _ (List.mem_of_getElem? (i := 24) rfl)))) (mvT hZ (hw _ (List.mem_of_getElem? (i := 24) rfl))) (mvT hZ (hw _ (List.mem_of_getElem? (i := 23) rfl))) (by decide) (backOf (W := 0) (rm5 l Z a0 hw [] b107 ys h117 n0 Z117 f121 f120 ge107) hZ (hw _ (List.mem_of_getElem? (i := 25) rfl)) (hw _ (List.mem_of_getElem? (i := 7) rfl)) (by decide) (by decide)) q122a q122c (g := (mkF m 39 #[.val (.long ys), .second, .val (.int xc), .val (.int xk), .val (.ref b102), .val (.ref b107), .val (.int xr), .unset, .unset, .unset, .unset, .unset, .unset, .unset, .unset, .unset] [(.ref b107)])) rfl (by rw [hml]; rfl) (Steps.refl _) (argsL := []) (rest := []) (lenOf pd_0 rfl) rfl (by show 2 * 0 + _ ≤ _; exact Nat.le_of_eq rfl) (hb hby at_39) (fun _ _ => ⟨rfl, e117, (by decide : 2 + 0 ≤ _), (by decide : 2 + 0 ≤ _)⟩)
  dsimp only [Pt.U, Pt.locs, Pt.cells, Pt.slots] at X122 l122 y122 z122 st122 hQ122
  subst l122 y122 z122
  obtain ⟨h122, e122⟩ : ∃ z, T122.heap = z := ⟨_, rfl⟩
  rw [e122] at hQ122
  obtain ⟨rfl, Nq122, Kq122, F122⟩ := hQ122
  have N122 := Fr.app N117 Nq122
  have Z122 : n0 ≤ h122.size := Nat.le_trans Z117 Kq122.1
  have f123 := f118.keep Kq122
  have f124 := f120.keep Kq122
  have f126 := F117.keep Kq122 (ninS ne108 nin0)
  refine W.s3 (mkF m 42 #[.val (.long ys), .second, .val (.int xc), .val (.int xk), .val (.ref b102), .val (.ref b107), .val (.int xr), .unset, .unset, .unset, .unset, .unset, .unset, .unset, .unset, .unset] [(.long (own_mix (ys + (-7046029254386353131 : Int64))))]) st122 ?_
  refine W.s1 (mkF m 44 #[.val (.long ys), .second, .val (.int xc), .val (.int xk), .val (.ref b102), .val (.ref b107), .val (.int xr), .unset, .unset, .unset, .unset, .unset, .unset, .unset, .unset, .unset] [(.int (32 : Int32)), (.long (own_mix (ys + (-7046029254386353131 : Int64))))]) (fun _ kx_ => XS.bipush X122.here hx rfl (hb hby at_42) kx_) ?_
  refine W.s1 (mkF m 45 #[.val (.long ys), .second, .val (.int xc), .val (.int xk), .val (.ref b102), .val (.ref b107), .val (.int xr), .unset, .unset, .unset, .unset, .unset, .unset, .unset, .unset, .unset] [(.long (((own_mix (ys + (-7046029254386353131 : Int64))).toUInt64 >>> ((32 : Int32) &&& 0x3f).toInt64.toUInt64).toInt64))]) (fun _ kx_ => XS.lushr X122.here hx rfl (hb hby at_44) rfl kx_) ?_
  generalize hg_yhi : (((own_mix (ys + (-7046029254386353131 : Int64))).toUInt64 >>> ((32 : Int32) &&& 0x3f).toInt64.toUInt64).toInt64) = yhi
  refine W.s1 (mkF m 47 #[.val (.long ys), .second, .val (.int xc), .val (.int xk), .val (.ref b102), .val (.ref b107), .val (.int xr), .val (.long yhi), .second, .unset, .unset, .unset, .unset, .unset, .unset, .unset] []) (fun _ kx_ => XS.lstore X122.here hx rfl (hb hby at_45) rfl (l' := #[.val (.long ys), .second, .val (.int xc), .val (.int xk), .val (.ref b102), .val (.ref b107), .val (.int xr), .val (.long yhi), .second, .unset, .unset, .unset, .unset, .unset, .unset, .unset]) rfl kx_) ?_
  refine W.s1 (mkF m 49 #[.val (.long ys), .second, .val (.int xc), .val (.int xk), .val (.ref b102), .val (.ref b107), .val (.int xr), .val (.long yhi), .second, .unset, .unset, .unset, .unset, .unset, .unset, .unset] [(.long yhi)]) (fun _ kx_ => XS.lload X122.here hx rfl (hb hby at_47) rfl kx_) ?_
  refine W.s1 (mkF m 50 #[.val (.long ys), .second, .val (.int xc), .val (.int xk), .val (.ref b102), .val (.ref b107), .val (.int xr), .val (.long yhi), .second, .unset, .unset, .unset, .unset, .unset, .unset, .unset] [(.int xk), (.long yhi)]) (fun _ kx_ => XS.iloadN X122.here hx rfl (hb hby at_49) rfl kx_) ?_
  refine W.s1 (mkF m 51 #[.val (.long ys), .second, .val (.int xc), .val (.int xk), .val (.ref b102), .val (.ref b107), .val (.int xr), .val (.long yhi), .second, .unset, .unset, .unset, .unset, .unset, .unset, .unset] [(.long (xk.toInt64)), (.long yhi)]) (fun _ kx_ => XS.i2l X122.here hx rfl (hb hby at_50) rfl kx_) ?_
  refine W.s1 (mkF m 52 #[.val (.long ys), .second, .val (.int xc), .val (.int xk), .val (.ref b102), .val (.ref b107), .val (.int xr), .val (.long yhi), .second, .unset, .unset, .unset, .unset, .unset, .unset, .unset] [(.long (yhi * (xk.toInt64)))]) (fun _ kx_ => XS.lmul X122.here hx rfl (hb hby at_51) rfl kx_) ?_
  generalize hg_ypr : (yhi * (xk.toInt64)) = ypr
  refine W.s1 (mkF m 54 #[.val (.long ys), .second, .val (.int xc), .val (.int xk), .val (.ref b102), .val (.ref b107), .val (.int xr), .val (.long yhi), .second, .val (.long ypr), .second, .unset, .unset, .unset, .unset, .unset] []) (fun _ kx_ => XS.lstore X122.here hx rfl (hb hby at_52) rfl (l' := #[.val (.long ys), .second, .val (.int xc), .val (.int xk), .val (.ref b102), .val (.ref b107), .val (.int xr), .val (.long yhi), .second, .val (.long ypr), .second, .unset, .unset, .unset, .unset, .unset]) rfl kx_) ?_
  obtain ⟨j1, j2, j3, j4⟩ := own_b hk1 hg_xr.symm hg_yhi hg_ypr
  refine W.s1 (mkF m 56 #[.val (.long ys), .second, .val (.int xc), .val (.int xk), .val (.ref b102), .val (.ref b107), .val (.int xr), .val (.long yhi), .second, .val (.long ypr), .second, .unset, .unset, .unset, .unset, .unset] [(.int xr)]) (fun _ kx_ => XS.iload X122.here hx rfl (hb hby at_54) rfl kx_) ?_
  refine W.ifc X122 hx (hb hby at_56) (pc' := 69) (pc'' := 59) (by decide) (by decide) rfl (fun (c56 : xr < (0 : Int32)) => ?_) (fun (c56 : ¬ xr < (0 : Int32)) => ?_)
  · exact absurd c56 j1
  · refine W.s1 (mkF m 61 #[.val (.long ys), .second, .val (.int xc), .val (.int xk), .val (.ref b102), .val (.ref b107), .val (.int xr), .val (.long yhi), .second, .val (.long ypr), .second, .unset, .unset, .unset, .unset, .unset] [(.int xr)]) (fun _ kx_ => XS.iload X122.here hx rfl (hb hby at_59) rfl kx_) ?_
    refine W.s1 (mkF m 62 #[.val (.long ys), .second, .val (.int xc), .val (.int xk), .val (.ref b102), .val (.ref b107), .val (.int xr), .val (.long yhi), .second, .val (.long ypr), .second, .unset, .unset, .unset, .unset, .unset] [(.int xk), (.int xr)]) (fun _ kx_ => XS.iloadN X122.here hx rfl (hb hby at_61) rfl kx_) ?_
    refine W.icmp X122 hx (hb hby at_62) (pc' := 69) (pc'' := 65) (by decide) (by decide) rfl (fun (c62 : ¬ xr < xk) => ?_) (fun (c62 : xr < xk) => ?_)
    · exact absurd j2 c62
    · refine W.s1 (mkF m 66 #[.val (.long ys), .second, .val (.int xc), .val (.int xk), .val (.ref b102), .val (.ref b107), .val (.int xr), .val (.long yhi), .second, .val (.long ypr), .second, .unset, .unset, .unset, .unset, .unset] [(.int (1 : Int32))]) (fun _ kx_ => XS.iconst X122.here hx rfl (hb hby at_65) kx_) ?_
      refine W.s1 (mkF m 70 #[.val (.long ys), .second, .val (.int xc), .val (.int xk), .val (.ref b102), .val (.ref b107), .val (.int xr), .val (.long yhi), .second, .val (.long ypr), .second, .unset, .unset, .unset, .unset, .unset] [(.int (1 : Int32))]) (fun _ kx_ => XS.goto X122.here hx rfl (pc0 := 66) (pc' := 70) rfl (hb hby at_66) (by decide) (by decide) kx_) ?_
      refine W.s1 (mkF m 72 #[.val (.long ys), .second, .val (.int xc), .val (.int xk), .val (.ref b102), .val (.ref b107), .val (.int xr), .val (.long yhi), .second, .val (.long ypr), .second, .val (.int (1 : Int32)), .unset, .unset, .unset, .unset] []) (fun _ kx_ => XS.istore X122.here hx rfl (hb hby at_70) rfl (l' := #[.val (.long ys), .second, .val (.int xc), .val (.int xk), .val (.ref b102), .val (.ref b107), .val (.int xr), .val (.long yhi), .second, .val (.long ypr), .second, .val (.int (1 : Int32)), .unset, .unset, .unset, .unset]) rfl kx_) ?_
      refine W.s1 (mkF m 74 #[.val (.long ys), .second, .val (.int xc), .val (.int xk), .val (.ref b102), .val (.ref b107), .val (.int xr), .val (.long yhi), .second, .val (.long ypr), .second, .val (.int (1 : Int32)), .unset, .unset, .unset, .unset] [(.int xr)]) (fun _ kx_ => XS.iload X122.here hx rfl (hb hby at_72) rfl kx_) ?_
      refine W.s1 (mkF m 75 #[.val (.long ys), .second, .val (.int xc), .val (.int xk), .val (.ref b102), .val (.ref b107), .val (.int xr), .val (.long yhi), .second, .val (.long ypr), .second, .val (.int (1 : Int32)), .unset, .unset, .unset, .unset] [(.long (xr.toInt64))]) (fun _ kx_ => XS.i2l X122.here hx rfl (hb hby at_74) rfl kx_) ?_
      refine W.s1 (mkF m 77 #[.val (.long ys), .second, .val (.int xc), .val (.int xk), .val (.ref b102), .val (.ref b107), .val (.int xr), .val (.long yhi), .second, .val (.long ypr), .second, .val (.int (1 : Int32)), .unset, .unset, .unset, .unset] [(.int (32 : Int32)), (.long (xr.toInt64))]) (fun _ kx_ => XS.bipush X122.here hx rfl (hb hby at_75) kx_) ?_
      refine W.s1 (mkF m 78 #[.val (.long ys), .second, .val (.int xc), .val (.int xk), .val (.ref b102), .val (.ref b107), .val (.int xr), .val (.long yhi), .second, .val (.long ypr), .second, .val (.int (1 : Int32)), .unset, .unset, .unset, .unset] [(.long ((xr.toInt64) <<< ((32 : Int32) &&& 0x3f).toInt64))]) (fun _ kx_ => XS.lshl X122.here hx rfl (hb hby at_77) rfl kx_) ?_
      refine W.s1 (mkF m 80 #[.val (.long ys), .second, .val (.int xc), .val (.int xk), .val (.ref b102), .val (.ref b107), .val (.int xr), .val (.long yhi), .second, .val (.long ypr), .second, .val (.int (1 : Int32)), .val (.long ((xr.toInt64) <<< ((32 : Int32) &&& 0x3f).toInt64)), .second, .unset, .unset] []) (fun _ kx_ => XS.lstore X122.here hx rfl (hb hby at_78) rfl (l' := #[.val (.long ys), .second, .val (.int xc), .val (.int xk), .val (.ref b102), .val (.ref b107), .val (.int xr), .val (.long yhi), .second, .val (.long ypr), .second, .val (.int (1 : Int32)), .val (.long ((xr.toInt64) <<< ((32 : Int32) &&& 0x3f).toInt64)), .second, .unset, .unset]) rfl kx_) ?_
      refine W.s1 (mkF m 82 #[.val (.long ys), .second, .val (.int xc), .val (.int xk), .val (.ref b102), .val (.ref b107), .val (.int xr), .val (.long yhi), .second, .val (.long ypr), .second, .val (.int (1 : Int32)), .val (.long ((xr.toInt64) <<< ((32 : Int32) &&& 0x3f).toInt64)), .second, .unset, .unset] [(.int (1 : Int32))]) (fun _ kx_ => XS.iload X122.here hx rfl (hb hby at_80) rfl kx_) ?_
      refine W.ifc X122 hx (hb hby at_82) (pc' := 109) (pc'' := 85) (by decide) (by decide) rfl (fun (c82 : (1 : Int32) = (0 : Int32)) => ?_) (fun (c82 : ¬ (1 : Int32) = (0 : Int32)) => ?_)
      · exact absurd c82 (by decide)
      · refine W.s1 (mkF m 87 #[.val (.long ys), .second, .val (.int xc), .val (.int xk), .val (.ref b102), .val (.ref b107), .val (.int xr), .val (.long yhi), .second, .val (.long ypr), .second, .val (.int (1 : Int32)), .val (.long ((xr.toInt64) <<< ((32 : Int32) &&& 0x3f).toInt64)), .second, .unset, .unset] [(.long ((xr.toInt64) <<< ((32 : Int32) &&& 0x3f).toInt64))]) (fun _ kx_ => XS.lload X122.here hx rfl (hb hby at_85) rfl kx_) ?_
        refine W.s1 (mkF m 89 #[.val (.long ys), .second, .val (.int xc), .val (.int xk), .val (.ref b102), .val (.ref b107), .val (.int xr), .val (.long yhi), .second, .val (.long ypr), .second, .val (.int (1 : Int32)), .val (.long ((xr.toInt64) <<< ((32 : Int32) &&& 0x3f).toInt64)), .second, .unset, .unset] [(.long ypr), (.long ((xr.toInt64) <<< ((32 : Int32) &&& 0x3f).toInt64))]) (fun _ kx_ => XS.lload X122.here hx rfl (hb hby at_87) rfl kx_) ?_
        refine W.lif X122 hx (hb hby at_89) (pc1 := 90) rfl (hb hby at_90) (pc' := 109) (pc'' := 93) (by decide) (by decide) rfl (fun (c90 : ypr < ((xr.toInt64) <<< ((32 : Int32) &&& 0x3f).toInt64)) => ?_) (fun (c90 : ¬ ypr < ((xr.toInt64) <<< ((32 : Int32) &&& 0x3f).toInt64)) => ?_)
        · exact absurd c90 j3
        · refine W.s1 (mkF m 95 #[.val (.long ys), .second, .val (.int xc), .val (.int xk), .val (.ref b102), .val (.ref b107), .val (.int xr), .val (.long yhi), .second, .val (.long ypr), .second, .val (.int (1 : Int32)), .val (.long ((xr.toInt64) <<< ((32 : Int32) &&& 0x3f).toInt64)), .second, .unset, .unset] [(.long ypr)]) (fun _ kx_ => XS.lload X122.here hx rfl (hb hby at_93) rfl kx_) ?_
          refine W.s1 (mkF m 97 #[.val (.long ys), .second, .val (.int xc), .val (.int xk), .val (.ref b102), .val (.ref b107), .val (.int xr), .val (.long yhi), .second, .val (.long ypr), .second, .val (.int (1 : Int32)), .val (.long ((xr.toInt64) <<< ((32 : Int32) &&& 0x3f).toInt64)), .second, .unset, .unset] [(.long ((xr.toInt64) <<< ((32 : Int32) &&& 0x3f).toInt64)), (.long ypr)]) (fun _ kx_ => XS.lload X122.here hx rfl (hb hby at_95) rfl kx_) ?_
          refine W.s1 (mkF m 98 #[.val (.long ys), .second, .val (.int xc), .val (.int xk), .val (.ref b102), .val (.ref b107), .val (.int xr), .val (.long yhi), .second, .val (.long ypr), .second, .val (.int (1 : Int32)), .val (.long ((xr.toInt64) <<< ((32 : Int32) &&& 0x3f).toInt64)), .second, .unset, .unset] [(.long (ypr - ((xr.toInt64) <<< ((32 : Int32) &&& 0x3f).toInt64)))]) (fun _ kx_ => XS.lsub X122.here hx rfl (hb hby at_97) rfl kx_) ?_
          refine W.s1 (mkF m 101 #[.val (.long ys), .second, .val (.int xc), .val (.int xk), .val (.ref b102), .val (.ref b107), .val (.int xr), .val (.long yhi), .second, .val (.long ypr), .second, .val (.int (1 : Int32)), .val (.long ((xr.toInt64) <<< ((32 : Int32) &&& 0x3f).toInt64)), .second, .unset, .unset] [(.long (4294967296 : Int64)), (.long (ypr - ((xr.toInt64) <<< ((32 : Int32) &&& 0x3f).toInt64)))]) (fun _ kx_ => X122.ldc2Long hx hown (mvT hZ (hw _ (List.mem_of_getElem? (i := 30) rfl))) (g := (mkF m 98 #[.val (.long ys), .second, .val (.int xc), .val (.int xk), .val (.ref b102), .val (.ref b107), .val (.int xr), .val (.long yhi), .second, .val (.long ypr), .second, .val (.int (1 : Int32)), .val (.long ((xr.toInt64) <<< ((32 : Int32) &&& 0x3f).toInt64)), .second, .unset, .unset] [(.long (ypr - ((xr.toInt64) <<< ((32 : Int32) &&& 0x3f).toInt64)))])) rfl (hb hby at_98) _ kx_) ?_
          refine W.lif X122 hx (hb hby at_101) (pc1 := 102) rfl (hb hby at_102) (pc' := 109) (pc'' := 105) (by decide) (by decide) rfl (fun (c102 : ¬ (ypr - ((xr.toInt64) <<< ((32 : Int32) &&& 0x3f).toInt64)) < (4294967296 : Int64)) => ?_) (fun (c102 : (ypr - ((xr.toInt64) <<< ((32 : Int32) &&& 0x3f).toInt64)) < (4294967296 : Int64)) => ?_)
          · exact absurd j4 c102
          · refine W.s1 (mkF m 106 #[.val (.long ys), .second, .val (.int xc), .val (.int xk), .val (.ref b102), .val (.ref b107), .val (.int xr), .val (.long yhi), .second, .val (.long ypr), .second, .val (.int (1 : Int32)), .val (.long ((xr.toInt64) <<< ((32 : Int32) &&& 0x3f).toInt64)), .second, .unset, .unset] [(.int (1 : Int32))]) (fun _ kx_ => XS.iconst X122.here hx rfl (hb hby at_105) kx_) ?_
            refine W.s1 (mkF m 110 #[.val (.long ys), .second, .val (.int xc), .val (.int xk), .val (.ref b102), .val (.ref b107), .val (.int xr), .val (.long yhi), .second, .val (.long ypr), .second, .val (.int (1 : Int32)), .val (.long ((xr.toInt64) <<< ((32 : Int32) &&& 0x3f).toInt64)), .second, .unset, .unset] [(.int (1 : Int32))]) (fun _ kx_ => XS.goto X122.here hx rfl (pc0 := 106) (pc' := 110) rfl (hb hby at_106) (by decide) (by decide) kx_) ?_
            refine W.s1 (mkF m 112 #[.val (.long ys), .second, .val (.int xc), .val (.int xk), .val (.ref b102), .val (.ref b107), .val (.int xr), .val (.long yhi), .second, .val (.long ypr), .second, .val (.int (1 : Int32)), .val (.long ((xr.toInt64) <<< ((32 : Int32) &&& 0x3f).toInt64)), .second, .val (.int (1 : Int32)), .unset] []) (fun _ kx_ => XS.istore X122.here hx rfl (hb hby at_110) rfl (l' := #[.val (.long ys), .second, .val (.int xc), .val (.int xk), .val (.ref b102), .val (.ref b107), .val (.int xr), .val (.long yhi), .second, .val (.long ypr), .second, .val (.int (1 : Int32)), .val (.long ((xr.toInt64) <<< ((32 : Int32) &&& 0x3f).toInt64)), .second, .val (.int (1 : Int32)), .unset]) rfl kx_) ?_
            refine W.s1 (mkF m 114 #[.val (.long ys), .second, .val (.int xc), .val (.int xk), .val (.ref b102), .val (.ref b107), .val (.int xr), .val (.long yhi), .second, .val (.long ypr), .second, .val (.int (1 : Int32)), .val (.long ((xr.toInt64) <<< ((32 : Int32) &&& 0x3f).toInt64)), .second, .val (.int (1 : Int32)), .unset] [(.ref b102)]) (fun _ kx_ => XS.aload X122.here hx rfl (hb hby at_112) rfl rfl kx_) ?_
            obtain ⟨cq127, kq127, q127a, q127b, q127c⟩ := isOf hZ e122 f123
            obtain ⟨_, _, ⟨T127, L127, k127, n127⟩, -, X127, ⟨Lc127, hQ127, l127, y127, z127⟩, st127⟩ := X122.virtualBack hx (y := (⟨"com/example/hybridge/hybridge/simulation/SplitMix64", "nextLong", "()J"⟩ : MethodName)) (z := (⟨"com/example/hybridge/hybridge/simulation/SplitMix64", "nextLong", "()J"⟩ : MethodName)) hown (mvT hZ (hw _ (List.mem_of_getElem? (i := 29) rfl))) (mvT hZ (hw _ (List.mem_of_getElem? (i := 22) rfl))) (notFace_of_selects (args := #[]) (mvT hZ (hw _ (List.mem_of_getElem? (i := 24) rfl)))) (mvT hZ (hw _ (List.mem_of_getElem? (i := 24) rfl))) (mvT hZ (hw _ (List.mem_of_getElem? (i := 23) rfl))) (by decide) (backOf (W := 0) (rm5 l Z a0 hw [] b102 (ys + (-7046029254386353131 : Int64)) h122 n0 Z122 f126 f123 ge102) hZ (hw _ (List.mem_of_getElem? (i := 25) rfl)) (hw _ (List.mem_of_getElem? (i := 7) rfl)) (by decide) (by decide)) q127a q127c (g := (mkF m 114 #[.val (.long ys), .second, .val (.int xc), .val (.int xk), .val (.ref b102), .val (.ref b107), .val (.int xr), .val (.long yhi), .second, .val (.long ypr), .second, .val (.int (1 : Int32)), .val (.long ((xr.toInt64) <<< ((32 : Int32) &&& 0x3f).toInt64)), .second, .val (.int (1 : Int32)), .unset] [(.ref b102)])) rfl (by rw [hml]; rfl) (Steps.refl _) (argsL := []) (rest := []) (lenOf pd_0 rfl) rfl (by show 2 * 0 + _ ≤ _; exact Nat.le_of_eq rfl) (hb hby at_114) (fun _ _ => ⟨rfl, e122, (by decide : 2 + 0 ≤ _), (by decide : 2 + 0 ≤ _)⟩)
            dsimp only [Pt.U, Pt.locs, Pt.cells, Pt.slots] at X127 l127 y127 z127 st127 hQ127
            subst l127 y127 z127
            obtain ⟨h127, e127⟩ : ∃ z, T127.heap = z := ⟨_, rfl⟩
            rw [e127] at hQ127
            obtain ⟨rfl, Nq127, Kq127, F127⟩ := hQ127
            have N127 := Fr.app N122 Nq127
            have Z127 : n0 ≤ h127.size := Nat.le_trans Z122 Kq127.1
            have f128 := f123.keep Kq127
            have f129 := f124.keep Kq127
            have f131 := F122.keep Kq127 (ninS (Ne.symm ne108) nin0)
            refine W.s3 (mkF m 117 #[.val (.long ys), .second, .val (.int xc), .val (.int xk), .val (.ref b102), .val (.ref b107), .val (.int xr), .val (.long yhi), .second, .val (.long ypr), .second, .val (.int (1 : Int32)), .val (.long ((xr.toInt64) <<< ((32 : Int32) &&& 0x3f).toInt64)), .second, .val (.int (1 : Int32)), .unset] [(.long (own_mix ((ys + (-7046029254386353131 : Int64)) + (-7046029254386353131 : Int64))))]) st127 ?_
            refine W.s1 (mkF m 119 #[.val (.long ys), .second, .val (.int xc), .val (.int xk), .val (.ref b102), .val (.ref b107), .val (.int xr), .val (.long yhi), .second, .val (.long ypr), .second, .val (.int (1 : Int32)), .val (.long ((xr.toInt64) <<< ((32 : Int32) &&& 0x3f).toInt64)), .second, .val (.int (1 : Int32)), .unset] [(.ref b107), (.long (own_mix ((ys + (-7046029254386353131 : Int64)) + (-7046029254386353131 : Int64))))]) (fun _ kx_ => XS.aload X127.here hx rfl (hb hby at_117) rfl rfl kx_) ?_
            obtain ⟨cq132, kq132, q132a, q132b, q132c⟩ := isOf hZ e127 f129
            obtain ⟨_, _, ⟨T132, L132, k132, n132⟩, -, X132, ⟨Lc132, hQ132, l132, y132, z132⟩, st132⟩ := X127.virtualBack hx (y := (⟨"com/example/hybridge/hybridge/simulation/SplitMix64", "nextLong", "()J"⟩ : MethodName)) (z := (⟨"com/example/hybridge/hybridge/simulation/SplitMix64", "nextLong", "()J"⟩ : MethodName)) hown (mvT hZ (hw _ (List.mem_of_getElem? (i := 29) rfl))) (mvT hZ (hw _ (List.mem_of_getElem? (i := 22) rfl))) (notFace_of_selects (args := #[]) (mvT hZ (hw _ (List.mem_of_getElem? (i := 24) rfl)))) (mvT hZ (hw _ (List.mem_of_getElem? (i := 24) rfl))) (mvT hZ (hw _ (List.mem_of_getElem? (i := 23) rfl))) (by decide) (backOf (W := 2) (rm5 l Z a0 hw [] b107 (ys + (-7046029254386353131 : Int64)) h127 n0 Z127 f131 f129 ge107) hZ (hw _ (List.mem_of_getElem? (i := 25) rfl)) (hw _ (List.mem_of_getElem? (i := 7) rfl)) (by decide) (by decide)) q132a q132c (g := (mkF m 119 #[.val (.long ys), .second, .val (.int xc), .val (.int xk), .val (.ref b102), .val (.ref b107), .val (.int xr), .val (.long yhi), .second, .val (.long ypr), .second, .val (.int (1 : Int32)), .val (.long ((xr.toInt64) <<< ((32 : Int32) &&& 0x3f).toInt64)), .second, .val (.int (1 : Int32)), .unset] [(.ref b107), (.long (own_mix ((ys + (-7046029254386353131 : Int64)) + (-7046029254386353131 : Int64))))])) rfl (by rw [hml]; rfl) (Steps.refl _) (argsL := []) (rest := [(.long (own_mix ((ys + (-7046029254386353131 : Int64)) + (-7046029254386353131 : Int64))))]) (lenOf pd_0 rfl) rfl (by show 2 * 0 + _ ≤ _; exact Nat.le_of_eq rfl) (hb hby at_119) (fun _ _ => ⟨rfl, e127, (by decide : 2 + 0 ≤ _), (by decide : 2 + 0 ≤ _)⟩)
            dsimp only [Pt.U, Pt.locs, Pt.cells, Pt.slots] at X132 l132 y132 z132 st132 hQ132
            subst l132 y132 z132
            obtain ⟨h132, e132⟩ : ∃ z, T132.heap = z := ⟨_, rfl⟩
            rw [e132] at hQ132
            obtain ⟨rfl, Nq132, Kq132, F132⟩ := hQ132
            have N132 := Fr.app N127 Nq132
            have Z132 : n0 ≤ h132.size := Nat.le_trans Z127 Kq132.1
            have f133 := f128.keep Kq132
            have f134 := f129.keep Kq132
            have f136 := F127.keep Kq132 (ninS ne108 nin0)
            refine W.s3 (mkF m 122 #[.val (.long ys), .second, .val (.int xc), .val (.int xk), .val (.ref b102), .val (.ref b107), .val (.int xr), .val (.long yhi), .second, .val (.long ypr), .second, .val (.int (1 : Int32)), .val (.long ((xr.toInt64) <<< ((32 : Int32) &&& 0x3f).toInt64)), .second, .val (.int (1 : Int32)), .unset] [(.long (own_mix ((ys + (-7046029254386353131 : Int64)) + (-7046029254386353131 : Int64)))), (.long (own_mix ((ys + (-7046029254386353131 : Int64)) + (-7046029254386353131 : Int64))))]) st132 ?_
            refine W.lif X132 hx (hb hby at_122) (pc1 := 123) rfl (hb hby at_123) (pc' := 130) (pc'' := 126) (by decide) (by decide) rfl (fun (c123 : ¬ (own_mix ((ys + (-7046029254386353131 : Int64)) + (-7046029254386353131 : Int64))) = (own_mix ((ys + (-7046029254386353131 : Int64)) + (-7046029254386353131 : Int64)))) => ?_) (fun (c123 : (own_mix ((ys + (-7046029254386353131 : Int64)) + (-7046029254386353131 : Int64))) = (own_mix ((ys + (-7046029254386353131 : Int64)) + (-7046029254386353131 : Int64)))) => ?_)
            · exact absurd rfl c123
            · refine W.s1 (mkF m 127 #[.val (.long ys), .second, .val (.int xc), .val (.int xk), .val (.ref b102), .val (.ref b107), .val (.int xr), .val (.long yhi), .second, .val (.long ypr), .second, .val (.int (1 : Int32)), .val (.long ((xr.toInt64) <<< ((32 : Int32) &&& 0x3f).toInt64)), .second, .val (.int (1 : Int32)), .unset] [(.int (1 : Int32))]) (fun _ kx_ => XS.iconst X132.here hx rfl (hb hby at_126) kx_) ?_
              refine W.s1 (mkF m 131 #[.val (.long ys), .second, .val (.int xc), .val (.int xk), .val (.ref b102), .val (.ref b107), .val (.int xr), .val (.long yhi), .second, .val (.long ypr), .second, .val (.int (1 : Int32)), .val (.long ((xr.toInt64) <<< ((32 : Int32) &&& 0x3f).toInt64)), .second, .val (.int (1 : Int32)), .unset] [(.int (1 : Int32))]) (fun _ kx_ => XS.goto X132.here hx rfl (pc0 := 127) (pc' := 131) rfl (hb hby at_127) (by decide) (by decide) kx_) ?_
              refine W.s1 (mkF m 133 #[.val (.long ys), .second, .val (.int xc), .val (.int xk), .val (.ref b102), .val (.ref b107), .val (.int xr), .val (.long yhi), .second, .val (.long ypr), .second, .val (.int (1 : Int32)), .val (.long ((xr.toInt64) <<< ((32 : Int32) &&& 0x3f).toInt64)), .second, .val (.int (1 : Int32)), .val (.int (1 : Int32))] []) (fun _ kx_ => XS.istore X132.here hx rfl (hb hby at_131) rfl (l' := #[.val (.long ys), .second, .val (.int xc), .val (.int xk), .val (.ref b102), .val (.ref b107), .val (.int xr), .val (.long yhi), .second, .val (.long ypr), .second, .val (.int (1 : Int32)), .val (.long ((xr.toInt64) <<< ((32 : Int32) &&& 0x3f).toInt64)), .second, .val (.int (1 : Int32)), .val (.int (1 : Int32))]) rfl kx_) ?_
              refine W.s1 (mkF m 135 #[.val (.long ys), .second, .val (.int xc), .val (.int xk), .val (.ref b102), .val (.ref b107), .val (.int xr), .val (.long yhi), .second, .val (.long ypr), .second, .val (.int (1 : Int32)), .val (.long ((xr.toInt64) <<< ((32 : Int32) &&& 0x3f).toInt64)), .second, .val (.int (1 : Int32)), .val (.int (1 : Int32))] [(.int (1 : Int32))]) (fun _ kx_ => XS.iload X132.here hx rfl (hb hby at_133) rfl kx_) ?_
              refine W.ifc X132 hx (hb hby at_135) (pc' := 152) (pc'' := 138) (by decide) (by decide) rfl (fun (c135 : (1 : Int32) = (0 : Int32)) => ?_) (fun (c135 : ¬ (1 : Int32) = (0 : Int32)) => ?_)
              · exact absurd c135 (by decide)
              · refine W.s1 (mkF m 140 #[.val (.long ys), .second, .val (.int xc), .val (.int xk), .val (.ref b102), .val (.ref b107), .val (.int xr), .val (.long yhi), .second, .val (.long ypr), .second, .val (.int (1 : Int32)), .val (.long ((xr.toInt64) <<< ((32 : Int32) &&& 0x3f).toInt64)), .second, .val (.int (1 : Int32)), .val (.int (1 : Int32))] [(.int (1 : Int32))]) (fun _ kx_ => XS.iload X132.here hx rfl (hb hby at_138) rfl kx_) ?_
                refine W.ifc X132 hx (hb hby at_140) (pc' := 152) (pc'' := 143) (by decide) (by decide) rfl (fun (c140 : (1 : Int32) = (0 : Int32)) => ?_) (fun (c140 : ¬ (1 : Int32) = (0 : Int32)) => ?_)
                · exact absurd c140 (by decide)
                · refine W.s1 (mkF m 145 #[.val (.long ys), .second, .val (.int xc), .val (.int xk), .val (.ref b102), .val (.ref b107), .val (.int xr), .val (.long yhi), .second, .val (.long ypr), .second, .val (.int (1 : Int32)), .val (.long ((xr.toInt64) <<< ((32 : Int32) &&& 0x3f).toInt64)), .second, .val (.int (1 : Int32)), .val (.int (1 : Int32))] [(.int (1 : Int32))]) (fun _ kx_ => XS.iload X132.here hx rfl (hb hby at_143) rfl kx_) ?_
                  refine W.ifc X132 hx (hb hby at_145) (pc' := 152) (pc'' := 148) (by decide) (by decide) rfl (fun (c145 : (1 : Int32) = (0 : Int32)) => ?_) (fun (c145 : ¬ (1 : Int32) = (0 : Int32)) => ?_)
                  · exact absurd c145 (by decide)
                  · refine W.s1 (mkF m 149 #[.val (.long ys), .second, .val (.int xc), .val (.int xk), .val (.ref b102), .val (.ref b107), .val (.int xr), .val (.long yhi), .second, .val (.long ypr), .second, .val (.int (1 : Int32)), .val (.long ((xr.toInt64) <<< ((32 : Int32) &&& 0x3f).toInt64)), .second, .val (.int (1 : Int32)), .val (.int (1 : Int32))] [(.int (1 : Int32))]) (fun _ kx_ => XS.iconst X132.here hx rfl (hb hby at_148) kx_) ?_
                    refine W.s1 (mkF m 153 #[.val (.long ys), .second, .val (.int xc), .val (.int xk), .val (.ref b102), .val (.ref b107), .val (.int xr), .val (.long yhi), .second, .val (.long ypr), .second, .val (.int (1 : Int32)), .val (.long ((xr.toInt64) <<< ((32 : Int32) &&& 0x3f).toInt64)), .second, .val (.int (1 : Int32)), .val (.int (1 : Int32))] [(.int (1 : Int32))]) (fun _ kx_ => XS.goto X132.here hx rfl (pc0 := 149) (pc' := 153) rfl (hb hby at_149) (by decide) (by decide) kx_) ?_
                    exact W.retZ X132 hx hlk (t := .boolean) (z' := (1 : Int32)) Bd.returns (by simp) (hb hby at_153) rfl (by show Q0 Z ys xc h0 n0 _ T132.heap _; rw [e132]; exact ⟨rfl, N132⟩) (by decide) (by decide)
set_option maxRecDepth 65536 in
set_option maxHeartbeats 40000000 in
theorem comes_1 {Post : Tables → Env → Array Value → State → Outcome → State → Prop} (hpost : ∀ tb e args s v u, (limb_1_1.after args s (.returned v) u = true ∧ limb_1_2.after args s (.returned v) u = true ∧ True) → FrameEnd s (.returned v) u (Jvm.fieldLocs frame_1_writes args s ++ Jvm.arrayLocs frame_1_arrays args s ++ Jvm.staticLocs frame_1_statics s) 16 128 → Post tb e args s (.returned v) u) :
    ArmFor flags0 classFile x code maxLocals ret World_1 tables_1 room_1 Calls_1 rest_1 Pre_1 Post := by
  intro l hfl _ _ p e ha hc hk s m args below hf hA hF happ hP
  obtain ⟨hcalls, hrest, hpre⟩ := hP
  obtain ⟨-, -, -, hnamed, -, -, -, hat⟩ := (Spec.applies_iff hf).mp happ
  obtain ⟨hg, hn⟩ := and_e (Cond.before_iff.mp (show (Jvm.Cond.and given_1 narrow_1).before args s = true from hpre))
  obtain ⟨gc, g0⟩ := and_e hg
  obtain ⟨w_0, g1⟩ := and_e g0
  have w_1 := g1
  obtain ⟨w0, w1, rfl⟩ : ∃ w0 w1 : Value, args = #[w0, w1] := by
    have hs : args.size = 2 := by simpa [Cond.value, given_1] using gc
    obtain ⟨L⟩ := args
    match L, hs with
    | [w0, w1], _ => exact ⟨w0, w1, rfl⟩
  have hw := fun d (hd : d ∈ tables_1) => atoms_spec (ws := Jvm.Cond.code x code maxLocals ret :: tables_1) hat d (List.mem_cons_of_mem _ hd)
  have hfit : Fit s := fun {y c} hc i hi => by
    obtain ⟨ha, rfl⟩ := Array.getElem?_eq_some_iff.mp hc
    have q := List.all_eq_true.mp ((Array.all_eq_true_iff_forall_mem.mp hF) _ (Array.getElem_mem ha)) i (List.mem_range.mpr hi)
    simpa [Array.getElem?_eq_getElem hi] using q
  obtain ⟨i0, ei0⟩ := isL_v w_0
  obtain rfl : w0 = (.long i0) := Option.some.inj ei0
  obtain ⟨i1, ei1⟩ := is_v w_1
  obtain rfl : w1 = (.int i1) := Option.some.inj ei1
  obtain ⟨n, o, h1, h2, h3, _, L, rfl, ⟨rfl, N⟩, hq⟩ := rm0 l s _ hw tables_1 i0 i1 s.heap s.heap.size (Nat.le_refl _)  p e ha hc hk s m _ below hf ((Spec.applies_iff_loose hf).mp happ).1 ⟨rfl, State.Warmed39.refl s, rfl⟩ trivial
  refine ⟨n, _, h1, h2, h3, hpost _ _ _ _ _ _ ⟨Cond.after_iff.mpr rfl, Cond.after_iff.mpr (eq_i res_at (Term.int_eval (1)) rfl), trivial⟩ ⟨hq.1, hq.2.1, (hq.2.2.sift fun y hy => Or.inr (N y hy)).mono (by decide) (by decide)⟩⟩
theorem main_1_1 : Claimed_1_1 := comes_1 fun _ _ _ _ _ _ h hF => ⟨h.1, hF⟩
theorem main_1_2 : Claimed_1_2 := comes_1 fun _ _ _ _ _ _ h hF => ⟨h.2.1, hF⟩
end Jvm.Pilot.@@N@@
namespace Jvm.Pilot.@@N@@
open Jvm Jvm.ClassFile Sem Op Lib Jvm.Free Jvm.Stand Jvm.Pilot.@@N@@.Jvm.D
/-! MADE BY PROGRAM (witnessworld.py) out of the Statement's table words and the real class files: 10 classes; the members and pool entries that the words name. The judged class is class 1, her method 1. -/
namespace start1
open Jvm.ClassFile
def u (s : String) : CpInfo := .utf8 (stringToUtf16 s)
/-- a pool by its gaps: so many unusable entries, then the entry; so many at the end -/
def gap : Nat → List CpInfo → List CpInfo
  | 0, r => r
  | n + 1, r => .unusable :: gap n r
def poolList (es : List (Nat × CpInfo)) (last : Nat) : List CpInfo := es.foldr (fun e r => gap e.1 (e.2 :: r)) (gap last [])
def pool (es : List (Nat × CpInfo)) (last : Nat) : Array CpInfo := ⟨poolList es last⟩
def fileOf (pool : Array CpInfo) (this : Nat) (attrs : Array Attribute := #[]) (ms : Array MethodInfo := #[]) (fl : Nat := 33) (sup : Nat := 0) (ifs : Array Nat := #[]) (fds : Array FieldInfo := #[]) : ClassFile where
  minorVersion := 0
  majorVersion := 65
  constantPool := pool
  accessFlags := fl
  thisClass := this
  superClass := sup
  interfaces := ifs
  fields := fds
  methods := ms
  attributes := attrs
def plain (name : String) (sup : Option ClassId) : Class where
  name := name
  kind := .ordinary
  loader := none
  accessFlags := 33
  super := sup
  interfaces := #[]
  cf := none
  fields := #[]
  methods := #[]
  instanceTypes := #[]
  staticTypes := #[]
  resolved := #[]
  callSites := []
  init := .initialized
  statics := none
  mirror := none

def pool0 : Array CpInfo := pool [(5, u "<init>"), (0, u "()V"), (1, .class_ 10), (1, u "java/lang/Object")] 113

def k0c0 : Code := { maxStack := 0, maxLocals := 1, code := object_method_1_code, exceptionTable := #[], attributes := #[] }
def k0m0 : Method := { name := "<init>", desc := "()V", sig := { parameters := [], returnType := none }, accessFlags := 1, code := some k0c0 }
/-- java/lang/Object -/
def k0 : Class := { plain "java/lang/Object" none with
  accessFlags := 33
  interfaces := #[]
  cf := some (fileOf pool0 8 #[] #[{ accessFlags := 1, nameIndex := 5, descriptorIndex := 6, attributes := #[] }] 33 0 #[] #[])
  fields := #[]
  methods := #[k0m0]
  instanceTypes := #[]
  staticTypes := #[]
  resolved := Array.replicate 124 none
  statics := none }

def pool1 : Array CpInfo := pool [(2, .class_ 4), (1, u "java/lang/Object"), (0, u "<init>"), (0, u "()V"), (0, .integer 2147483647), (0, .methodref 9 10), (0, .class_ 11), (0, .nameAndType 12 13), (0, u "java/lang/Math"), (0, u "max"), (0, u "(II)I"), (0, .class_ 15), (0, u "com/example/hybridge/hybridge/simulation/SplitMix64"), (0, .methodref 14 17), (0, .nameAndType 5 18), (0, u "(J)V"), (0, .methodref 14 20), (0, .nameAndType 21 22), (0, u "below"), (0, u "(I)I"), (0, .methodref 14 24), (0, .nameAndType 25 26), (0, u "nextLong"), (0, u "()J"), (0, .long 4294967296), (1, .class_ 30), (0, u "com/example/hybridge/hybridge/simulation/SplitMix64BelowPinLaw"), (2, u "law"), (0, u "(JI)Z")] 3

def k1m0 : Method := { name := "<init>", desc := "()V", sig := { parameters := [], returnType := none }, accessFlags := 1, code := none }
def k1c1 : Code := { maxStack := 4, maxLocals := 16, code := code, exceptionTable := #[], attributes := #[] }
def k1m1 : Method := { name := "law", desc := "(JI)Z", sig := { parameters := [.long, .int], returnType := some .boolean }, accessFlags := 9, code := some k1c1 }
/-- com/example/hybridge/hybridge/simulation/SplitMix64BelowPinLaw -/
def k1 : Class := { plain "com/example/hybridge/hybridge/simulation/SplitMix64BelowPinLaw" (some 0) with
  accessFlags := 49
  interfaces := #[]
  cf := some (fileOf pool1 29 #[] #[{ accessFlags := 1, nameIndex := 5, descriptorIndex := 6, attributes := #[] }, { accessFlags := 9, nameIndex := 33, descriptorIndex := 34, attributes := #[] }] 49 2 #[] #[])
  fields := #[]
  methods := #[k1m0, k1m1]
  instanceTypes := #[]
  staticTypes := #[]
  resolved := Array.replicate 38 none
  statics := none }

def pool2 : Array CpInfo := pool [(1, .class_ 2), (0, u "java/lang/Math"), (1, .class_ 6), (1, u "java/lang/Object"), (0, u "<init>"), (0, u "()V"), (89, .class_ 100), (1, u "java/lang/Math$RandomNumberGeneratorHolder"), (71, u "negativeZeroFloatBits"), (0, u "J"), (2, u "negativeZeroDoubleBits"), (21, u "max"), (46, u "$assertionsDisabled"), (0, u "Z"), (88, u "(II)I"), (2, u "twoToTheDoubleScaleDown"), (0, u "D"), (4, u "twoToTheDoubleScaleUp"), (9, u "E"), (3, u "PI"), (2, u "TAU"), (2, u "DEGREES_TO_RADIANS"), (0, u "RADIANS_TO_DEGREES")] 94

def k2m0 : Method := { name := "<init>", desc := "()V", sig := { parameters := [], returnType := none }, accessFlags := 2, code := none }
def k2c1 : Code := { maxStack := 2, maxLocals := 2, code := jdk_29_method_65_code, exceptionTable := #[], attributes := #[] }
def k2m1 : Method := { name := "max", desc := "(II)I", sig := { parameters := [.int, .int], returnType := some .int }, accessFlags := 9, code := some k2c1 }
/-- java/lang/Math -/
def k2 : Class := { plain "java/lang/Math" (some 0) with
  accessFlags := 49
  interfaces := #[]
  cf := some (fileOf pool2 1 #[.nestMembers #[98]] #[{ accessFlags := 2, nameIndex := 7, descriptorIndex := 8, attributes := #[] }, { accessFlags := 9, nameIndex := 198, descriptorIndex := 335, attributes := #[] }] 49 4 #[] #[{ accessFlags := 25, nameIndex := 354, descriptorIndex := 339, attributes := #[] }, { accessFlags := 25, nameIndex := 358, descriptorIndex := 339, attributes := #[] }, { accessFlags := 25, nameIndex := 361, descriptorIndex := 339, attributes := #[] }, { accessFlags := 26, nameIndex := 364, descriptorIndex := 339, attributes := #[] }, { accessFlags := 26, nameIndex := 365, descriptorIndex := 339, attributes := #[] }, { accessFlags := 26, nameIndex := 172, descriptorIndex := 173, attributes := #[] }, { accessFlags := 26, nameIndex := 176, descriptorIndex := 173, attributes := #[] }, { accessFlags := 8, nameIndex := 344, descriptorIndex := 339, attributes := #[] }, { accessFlags := 8, nameIndex := 338, descriptorIndex := 339, attributes := #[] }, { accessFlags := 4120, nameIndex := 245, descriptorIndex := 246, attributes := #[] }])
  fields := #[{ name := "E", type := .double, accessFlags := 25, slot := 0, constantValue := 0 }, { name := "PI", type := .double, accessFlags := 25, slot := 1, constantValue := 0 }, { name := "TAU", type := .double, accessFlags := 25, slot := 2, constantValue := 0 }, { name := "DEGREES_TO_RADIANS", type := .double, accessFlags := 26, slot := 3, constantValue := 0 }, { name := "RADIANS_TO_DEGREES", type := .double, accessFlags := 26, slot := 4, constantValue := 0 }, { name := "negativeZeroFloatBits", type := .long, accessFlags := 26, slot := 5, constantValue := 0 }, { name := "negativeZeroDoubleBits", type := .long, accessFlags := 26, slot := 6, constantValue := 0 }, { name := "twoToTheDoubleScaleUp", type := .double, accessFlags := 8, slot := 7, constantValue := 0 }, { name := "twoToTheDoubleScaleDown", type := .double, accessFlags := 8, slot := 8, constantValue := 0 }, { name := "$assertionsDisabled", type := .boolean, accessFlags := 4120, slot := 9, constantValue := 0 }]
  methods := #[k2m0, k2m1]
  instanceTypes := #[]
  staticTypes := #[.double, .double, .double, .double, .double, .long, .long, .double, .double, .boolean]
  resolved := Array.replicate 460 none
  statics := none }

def pool3 : Array CpInfo := pool [(1, .methodref 2 3), (0, .class_ 4), (0, .nameAndType 5 6), (0, u "java/lang/Object"), (0, u "<init>"), (0, u "()V"), (0, .fieldref 8 9), (0, .class_ 10), (0, .nameAndType 11 12), (0, u "com/example/hybridge/hybridge/simulation/SplitMix64"), (0, u "state"), (0, u "J"), (0, .long 11400714819323198485), (1, .long 13787848793156543929), (1, .long 10723151780598845931), (1, .methodref 8 20), (0, .nameAndType 21 22), (0, u "nextLong"), (0, u "()J"), (11, u "GOLDEN_GAMMA"), (1, u "(J)V"), (3, u "below"), (0, u "(I)I")] 2

def k3c0 : Code := { maxStack := 3, maxLocals := 3, code := prog_96_method_1_code, exceptionTable := #[], attributes := #[] }
def k3m0 : Method := { name := "<init>", desc := "(J)V", sig := { parameters := [.long], returnType := none }, accessFlags := 0, code := some k3c0 }
def k3c1 : Code := { maxStack := 5, maxLocals := 3, code := prog_96_method_2_code, exceptionTable := #[], attributes := #[] }
def k3m1 : Method := { name := "nextLong", desc := "()J", sig := { parameters := [], returnType := some .long }, accessFlags := 0, code := some k3c1 }
def k3c2 : Code := { maxStack := 4, maxLocals := 2, code := prog_96_method_4_code, exceptionTable := #[], attributes := #[] }
def k3m2 : Method := { name := "below", desc := "(I)I", sig := { parameters := [.int], returnType := some .int }, accessFlags := 0, code := some k3c2 }
/-- com/example/hybridge/hybridge/simulation/SplitMix64 -/
def k3 : Class := { plain "com/example/hybridge/hybridge/simulation/SplitMix64" (some 0) with
  accessFlags := 48
  interfaces := #[]
  cf := some (fileOf pool3 8 #[] #[{ accessFlags := 0, nameIndex := 5, descriptorIndex := 36, attributes := #[] }, { accessFlags := 0, nameIndex := 21, descriptorIndex := 22, attributes := #[] }, { accessFlags := 0, nameIndex := 40, descriptorIndex := 41, attributes := #[] }] 48 2 #[] #[{ accessFlags := 26, nameIndex := 34, descriptorIndex := 12, attributes := #[] }, { accessFlags := 2, nameIndex := 11, descriptorIndex := 12, attributes := #[] }])
  fields := #[{ name := "GOLDEN_GAMMA", type := .long, accessFlags := 26, slot := 0, constantValue := 0 }, { name := "state", type := .long, accessFlags := 2, slot := 0, constantValue := 0 }]
  methods := #[k3m0, k3m1, k3m2]
  instanceTypes := #[.long]
  staticTypes := #[.long]
  resolved := Array.replicate 44 none
  statics := none }

def pool4 : Array CpInfo := pool [(1, u "java/lang/Cloneable"), (0, .class_ 1), (0, u "java/lang/Object"), (0, .class_ 3)] 3

/-- java/lang/Cloneable -/
def k4 : Class := { plain "java/lang/Cloneable" (some 0) with
  accessFlags := 1537
  interfaces := #[]
  cf := some (fileOf pool4 2 #[] #[] 1537 4 #[] #[])
  fields := #[]
  methods := #[]
  instanceTypes := #[]
  staticTypes := #[]
  resolved := Array.replicate 8 none
  statics := none }

def pool5 : Array CpInfo := pool [(1, u "java/io/Serializable"), (0, .class_ 1), (0, u "java/lang/Object"), (0, .class_ 3)] 3

/-- java/io/Serializable -/
def k5 : Class := { plain "java/io/Serializable" (some 0) with
  accessFlags := 1537
  interfaces := #[]
  cf := some (fileOf pool5 2 #[] #[] 1537 4 #[] #[])
  fields := #[]
  methods := #[]
  instanceTypes := #[]
  staticTypes := #[]
  resolved := Array.replicate 8 none
  statics := none }

/-- the primitive byte -/
def k6 : Class := { plain "byte" none with kind := .primitive 'B', accessFlags := 0x411 }
/-- [B -/
def k7 : Class := { plain "[B" (some 0) with kind := .array 6 .byte, interfaces := #[4, 5], accessFlags := 1041 }

/-- the primitive int -/
def k8 : Class := { plain "int" none with kind := .primitive 'I', accessFlags := 0x411 }
/-- [I -/
def k9 : Class := { plain "[I" (some 0) with kind := .array 8 .int, interfaces := #[4, 5], accessFlags := 1041 }

def heap : Heap := #[]
def classes : Array Class := #[k0, k1, k2, k3, k4, k5, k6, k7, k8, k9]
def interned : List (Array UInt16 × Addr) := []
def slotsUsed : Nat := 0
def theMethod : MethodId := ⟨1, 1⟩
def args0 : Array Value := #[.long 5, .int 3]
def aboutOver (below : List Frame) : State where
  vm := { classes := classes, interned := interned.toArray }
  heap := heap
  slotsUsed := slotsUsed
  threads := #[{ frames := .invoking theMethod args0 :: below }]
def below0 : List Frame := [.native { method := ⟨0, 0⟩, args := #[] }]
def about1 : State := aboutOver below0
def p0 : Program := .bare "" "" ""
def e0 : Env := launch0.env 0 0 0
theorem w_frames : about1.frames = Frame.invoking theMethod args0 :: below0 := rfl
set_option maxRecDepth 65536 in
theorem w_args : argsFit about1.vm theMethod args0 = true := by decide +kernel
set_option maxRecDepth 65536 in
theorem w_heap : heapFits about1 = true := by decide +kernel
set_option maxRecDepth 65536 in
theorem w_runnable : about1.curStatus? = some .runnable := by decide +kernel
set_option maxRecDepth 65536 in
theorem w_alone : about1.alone = true := by decide +kernel
set_option maxRecDepth 65536 in
theorem w_named : about1.methodNamed? x = some theMethod := by decide +kernel
set_option maxRecDepth 65536 in
theorem w_hears : about1.hears theMethod below0 = true := by decide +kernel
set_option maxRecDepth 65536 in
theorem w_ripe : about1.ripe theMethod args0 below0 = true := by decide +kernel
theorem w_running : about1.status = .running := rfl
set_option maxRecDepth 65536 in
theorem w_room : about1.hasRoom e0.platform room_1 = true :=
  launch0.hasRoom_least _ room_1 (by decide +kernel) (by decide +kernel) (by decide +kernel) (by decide +kernel) (by decide +kernel) (by decide +kernel)
theorem allAtoms_all (ts : List Jvm.Cond) (a : Array Jvm.Value) (st : Jvm.State) : (allAtoms ts).before a st = ts.all (fun c => c.before a st) := by
  induction ts with
  | nil => rfl
  | cons c t ih =>
    show (Jvm.Cond.and c (allAtoms t)).before a st = _
    rw [Jvm.Cond.before_and, ih, List.all_cons]
def words1 : List Jvm.Cond := Jvm.Cond.code x code maxLocals ret :: tables_1
/-- a 'code' word, met by the world's own term for the bytes: nothing is compared byte by byte -/
theorem code_word {y : MethodName} {bytes : ByteArray} {mx : Nat} {rt : Option FieldType} {a : Array Value} {s : State} {m : MethodId} {meth : Method} {c : Code} (h1 : s.methodNamed? y = some m) (h2 : s.vm.method? m = some meth) (h3 : meth.code = some c) (h4 : c.code = bytes)
    (h5 : (c.maxLocals == mx && c.exceptionTable.isEmpty && decide (c.maxStack ≤ mostOperands) && decide (meth.sig.returnType = rt) && !meth.locks && decide (parseMethodDescriptor y.desc = some meth.sig)) = true) : (Jvm.Cond.code y bytes mx rt).before a s = true := by
  simp only [Bool.and_eq_true, beq_iff_eq, Bool.not_eq_true', decide_eq_true_eq] at h5
  obtain ⟨⟨⟨⟨⟨g1, g2⟩, g3⟩, g4⟩, g5⟩, g6⟩ := h5
  simp [Cond.before, Cond.holds, Cond.value, h1, h2, h3, h4, g1, g2, g3, g4, g5, g6]
def isCode : Jvm.Cond → Bool
  | .code _ _ _ _ => true
  | _ => false
theorem all_split {L : List Jvm.Cond} {P : Jvm.Cond → Bool} (h1 : L.all (fun c => isCode c || P c) = true) (h2 : ∀ c ∈ L.filter isCode, P c = true) : L.all P = true := by
  refine List.all_eq_true.mpr fun c hc => ?_
  have h := List.all_eq_true.mp h1 c hc
  rcases Bool.eq_false_or_eq_true (isCode c) with hi | hi
  · exact h2 c (List.mem_filter.mpr ⟨hc, hi⟩)
  · simpa [hi] using h
set_option maxRecDepth 65536 in
theorem w_c0 : (Jvm.Cond.code x code maxLocals ret).before args0 about1 = true := code_word (m := ⟨1, 1⟩) (meth := k1m1) (c := k1c1) (by decide +kernel) rfl rfl rfl (by decide +kernel)
set_option maxRecDepth 65536 in
theorem w_c1 : (Jvm.Cond.code ({ cls := "java/lang/Math", name := "max", desc := "(II)I" } : Jvm.MethodName) jdk_29_method_65_code (2 : Nat) (Option.some Jvm.ClassFile.FieldType.int)).before args0 about1 = true := code_word (m := ⟨2, 1⟩) (meth := k2m1) (c := k2c1) (by decide +kernel) rfl rfl rfl (by decide +kernel)
set_option maxRecDepth 65536 in
theorem w_c2 : (Jvm.Cond.code ({ cls := "com/example/hybridge/hybridge/simulation/SplitMix64", name := "<init>", desc := "(J)V" } : Jvm.MethodName) prog_96_method_1_code (3 : Nat) (Option.none : Option Jvm.ClassFile.FieldType)).before args0 about1 = true := code_word (m := ⟨3, 0⟩) (meth := k3m0) (c := k3c0) (by decide +kernel) rfl rfl rfl (by decide +kernel)
set_option maxRecDepth 65536 in
theorem w_c3 : (Jvm.Cond.code ({ cls := "java/lang/Object", name := "<init>", desc := "()V" } : Jvm.MethodName) object_method_1_code (1 : Nat) (Option.none : Option Jvm.ClassFile.FieldType)).before args0 about1 = true := code_word (m := ⟨0, 0⟩) (meth := k0m0) (c := k0c0) (by decide +kernel) rfl rfl rfl (by decide +kernel)
set_option maxRecDepth 65536 in
theorem w_c4 : (Jvm.Cond.code ({ cls := "com/example/hybridge/hybridge/simulation/SplitMix64", name := "below", desc := "(I)I" } : Jvm.MethodName) prog_96_method_4_code (2 : Nat) (Option.some Jvm.ClassFile.FieldType.int)).before args0 about1 = true := code_word (m := ⟨3, 2⟩) (meth := k3m2) (c := k3c2) (by decide +kernel) rfl rfl rfl (by decide +kernel)
set_option maxRecDepth 65536 in
theorem w_c5 : (Jvm.Cond.code ({ cls := "com/example/hybridge/hybridge/simulation/SplitMix64", name := "nextLong", desc := "()J" } : Jvm.MethodName) prog_96_method_2_code (3 : Nat) (Option.some Jvm.ClassFile.FieldType.long)).before args0 about1 = true := code_word (m := ⟨3, 1⟩) (meth := k3m1) (c := k3c1) (by decide +kernel) rfl rfl rfl (by decide +kernel)
def codes1 : List Jvm.Cond := [Jvm.Cond.code x code maxLocals ret, Jvm.Cond.code ({ cls := "java/lang/Math", name := "max", desc := "(II)I" } : Jvm.MethodName) jdk_29_method_65_code (2 : Nat) (Option.some Jvm.ClassFile.FieldType.int), Jvm.Cond.code ({ cls := "com/example/hybridge/hybridge/simulation/SplitMix64", name := "<init>", desc := "(J)V" } : Jvm.MethodName) prog_96_method_1_code (3 : Nat) (Option.none : Option Jvm.ClassFile.FieldType), Jvm.Cond.code ({ cls := "java/lang/Object", name := "<init>", desc := "()V" } : Jvm.MethodName) object_method_1_code (1 : Nat) (Option.none : Option Jvm.ClassFile.FieldType), Jvm.Cond.code ({ cls := "com/example/hybridge/hybridge/simulation/SplitMix64", name := "below", desc := "(I)I" } : Jvm.MethodName) prog_96_method_4_code (2 : Nat) (Option.some Jvm.ClassFile.FieldType.int), Jvm.Cond.code ({ cls := "com/example/hybridge/hybridge/simulation/SplitMix64", name := "nextLong", desc := "()J" } : Jvm.MethodName) prog_96_method_2_code (3 : Nat) (Option.some Jvm.ClassFile.FieldType.long)]
set_option maxRecDepth 65536 in
theorem codes_eq : words1.filter isCode = codes1 := rfl
theorem w_codes : ∀ c ∈ words1.filter isCode, c.before args0 about1 = true := by
  rw [codes_eq]
  intro c hc
  simp only [codes1, List.mem_cons, List.not_mem_nil, or_false] at hc
  rcases hc with rfl | rfl | rfl | rfl | rfl | rfl
  · exact w_c0
  · exact w_c1
  · exact w_c2
  · exact w_c3
  · exact w_c4
  · exact w_c5
set_option maxRecDepth 65536 in
theorem w_t1 : (words1.take 24).all (fun c => isCode c || c.before args0 about1) = true := by decide +kernel
set_option maxRecDepth 65536 in
theorem w_t2 : (words1.drop 24).all (fun c => isCode c || c.before args0 about1) = true := by decide +kernel
theorem w_tables : (allAtoms (Jvm.Cond.code x code maxLocals ret :: tables_1)).before args0 about1 = true := by
  rw [allAtoms_all]
  show words1.all (fun c => c.before args0 about1) = true
  refine all_split ?_ w_codes
  rw [← List.take_append_drop 24 words1, List.all_append, w_t1, w_t2]
  rfl
set_option maxRecDepth 65536 in
theorem w_case : (Jvm.Cond.and given_1 narrow_1).before args0 about1 = true := by decide +kernel
theorem w_applies : (headSpec (Jvm.Cond.code x code maxLocals ret :: tables_1) room_1).applies x e0.platform about1 = true :=
  (Spec.applies_iff w_frames).mpr ⟨w_running, w_runnable, w_alone, w_named, w_hears, w_ripe, w_room, w_tables⟩
theorem atStart : AtStart classFile x code maxLocals ret World_1 tables_1 room_1 Calls_1 rest_1 Pre_1 launch0 p0 e0 about1 theMethod args0 below0 :=
  ⟨lists_1, trivial, launch0.admits_env _ _ _, launch0.least_env, fairChoices_fair.cas, fairChoices_fair.clock, w_frames, w_args, w_heap, w_applies, trivial, trivial, w_case⟩
end start1
theorem witness_1 : WitnessClaimed_1 := ⟨start1.p0, start1.e0, start1.about1, start1.theMethod, start1.args0, start1.below0, start1.atStart⟩
end Jvm.Pilot.@@N@@
