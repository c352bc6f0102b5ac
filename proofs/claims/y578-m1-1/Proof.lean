import JvmDerived
import JvmDerived.Pilot.@@N@@Statement
import JvmDerived.Pilot.@@N@@Code
set_option linter.unusedVariables false
set_option linter.unusedSimpArgs false
namespace Jvm.Pilot.@@N@@.W
open Jvm Jvm.ClassFile Sem Op Lib Jvm.Free Jvm.Stand Jvm.LawKit Jvm.RoadKit
/-! own kit: a body's walk in one pass, backwards from its end ('Gl': from here the body comes to its end and there P holds) -/
section Walk
variable {p : Program} {l : Launch} {e : Env} {R : Room} {s : State} {m : MethodId} {args : Array Value} {below : List Frame} {meth : Method} {c : Code} {T T' : State} {locs : List Loc} {cells slots : Nat} {P : Option Value → Heap → List Loc → Prop} {C N : Nat} {Ls : Array Slot} {S : List Value} {pc pc' pc'' : Nat} {g : JFrame}
def Gl (p : Program) (e : Env) (below : List Frame) (s : State) (P : Option Value → Heap → List Loc → Prop) (C N : Nat) (T : State) (g : JFrame) : Prop :=
  ∃ (s₂ : State) (o : Outcome), Steps p.tables e below (T.setTop g) s₂ ∧ s₂.status = .running ∧ Ended s₂ below o ∧ ∃ v L, o = .returned v ∧ P v s₂.heap L ∧ FrameEnd s o s₂ L C N
theorem s1 (g' : JFrame) (h : ∀ t, Steps p.tables e below (T.setTop g') t → Steps p.tables e below (T.setTop g) t) (K : Gl p e below s P C N T g') : Gl p e below s P C N T g := by
  obtain ⟨s₂, o, h1, h2⟩ := K; exact ⟨s₂, o, h _ h1, h2⟩
theorem s2 (g' : JFrame) (h : ∀ t, Steps p.tables e below (T'.setTop g') t → Steps p.tables e below (T.setTop g) t) (K : Gl p e below s P C N T' g') : Gl p e below s P C N T g := by
  obtain ⟨s₂, o, h1, h2⟩ := K; exact ⟨s₂, o, h _ h1, h2⟩
theorem s3 (g' : JFrame) (h : Steps p.tables e below (T.setTop g) (T'.setTop g')) (K : Gl p e below s P C N T' g') : Gl p e below s P C N T g := by
  obtain ⟨s₂, o, h1, h2⟩ := K; exact ⟨s₂, o, h.trans h1, h2⟩
theorem cast {g' : JFrame} (q : g = g') (K : Gl p e below s P C N T g') : Gl p e below s P C N T g := q ▸ K
theorem fin (X : Stand p l e R s m args below meth c T locs cells slots) {v : Option Value} (hv : meth.sig.returnType = none → v = none) (hlk : meth.locks = false)
    (hs : ∀ fs, (∀ (f : JFrame) (acts : List Action), f.method = m → f.locked = none → f.entered = [] → (doReturn e (T.setTop f) acts v).1 = T.setFrames fs) → Steps p.tables e below (T.setTop g) (T.setFrames fs))
    (hP : P v T.heap locs) (hC : cells ≤ C) (hN : slots ≤ N) : Gl p e below s P C N T g := by
  obtain ⟨fs, hr, hrun, hended, hW, hsame⟩ := X.leave hv hlk
  exact ⟨_, _, hs fs hr, hrun, hended, _, _, rfl, hP, ⟨_, rfl⟩, hW, hsame.mono hC hN⟩
theorem retZ (X : Stand p l e R s m args below meth c T locs cells slots) (hx : p.tables.exec = Jvm.exec) (hlk : meth.locks = false) {z z' : Int32} {t : FieldType} (hret : meth.sig.returnType = some t) (ht : t = .boolean ∨ t = .byte ∨ t = .char ∨ t = .short)
    (hd : decode c.code pc = .ok (.ireturn, 1)) (hz : nar t z = z') (hP : P (some (.int z')) T.heap locs) (hC : cells ≤ C) (hN : slots ≤ N) : Gl p e below s P C N T (mkF m pc Ls (.int z :: S)) :=
  fin X (v := some (.int z')) (fun h => by rw [hret] at h; cases h) hlk (fun fs hr => by subst hz; exact RoadKit.retN X hx hret ht hd hr) hP hC hN
theorem retI (X : Stand p l e R s m args below meth c T locs cells slots) (hx : p.tables.exec = Jvm.exec) (hlk : meth.locks = false) {z : Int32} (hret : meth.sig.returnType = some .int)
    (hd : decode c.code pc = .ok (.ireturn, 1)) (hP : P (some (.int z)) T.heap locs) (hC : cells ≤ C) (hN : slots ≤ N) : Gl p e below s P C N T (mkF m pc Ls (.int z :: S)) :=
  fin X (v := some (.int z)) (fun h => by rw [hret] at h; cases h) hlk (fun fs hr => retOut X hx hret rfl (Or.inl ⟨rfl, Or.inl rfl, _, rfl⟩) hd hr) hP hC hN
theorem retL (X : Stand p l e R s m args below meth c T locs cells slots) (hx : p.tables.exec = Jvm.exec) (hlk : meth.locks = false) {z : Int64} (hret : meth.sig.returnType = some .long)
    (hd : decode c.code pc = .ok (.lreturn, 1)) (hP : P (some (.long z)) T.heap locs) (hC : cells ≤ C) (hN : slots ≤ N) : Gl p e below s P C N T (mkF m pc Ls (.long z :: S)) :=
  fin X (v := some (.long z)) (fun h => by rw [hret] at h; cases h) hlk (fun fs hr => retOut X hx hret rfl (Or.inr (Or.inl ⟨rfl, rfl, _, rfl⟩)) hd hr) hP hC hN
theorem retA (X : Stand p l e R s m args below meth c T locs cells slots) (hx : p.tables.exec = Jvm.exec) (hlk : meth.locks = false) {w : Value} {t : FieldType} (hret : meth.sig.returnType = some t) (ht : t.isReference = true) (hw : w.isRef = true) (hn : narrow t w = w)
    (hd : decode c.code pc = .ok (.areturn, 1)) (hP : P (some w) T.heap locs) (hC : cells ≤ C) (hN : slots ≤ N) : Gl p e below s P C N T (mkF m pc Ls (w :: S)) :=
  fin X (v := some w) (fun h => by rw [hret] at h; cases h) hlk (fun fs hr => retOut X hx hret hn (Or.inr (Or.inr (Or.inr (Or.inr ⟨rfl, ht, hw⟩)))) hd hr) hP hC hN
theorem ret0 (X : Stand p l e R s m args below meth c T locs cells slots) (hx : p.tables.exec = Jvm.exec) (hlk : meth.locks = false) (hret : meth.sig.returnType = none)
    (hd : decode c.code pc = .ok (.return_, 1)) (hP : P none T.heap locs) (hC : cells ≤ C) (hN : slots ≤ N) : Gl p e below s P C N T (mkF m pc Ls []) :=
  fin X (v := none) (fun _ => rfl) hlk (fun fs hr => X.returnOut hx hret hd hr) hP hC hN
/-! the branches -/
def cY : ClassFile.Cond → Int32 → Int32 → Prop
  | .eq, x, y => x = y
  | .ne, x, y => ¬ x = y
  | .lt, x, y => x < y
  | .ge, x, y => ¬ x < y
  | .gt, x, y => y < x
  | .le, x, y => ¬ y < x
def cN : ClassFile.Cond → Int32 → Int32 → Prop
  | .eq, x, y => ¬ x = y
  | .ne, x, y => x = y
  | .lt, x, y => ¬ x < y
  | .ge, x, y => x < y
  | .gt, x, y => ¬ y < x
  | .le, x, y => y < x
theorem cOr (cd : ClassFile.Cond) (x y : Int32) : (cY cd x y ∧ if_icmp.holds cd x y = true) ∨ (cN cd x y ∧ if_icmp.holds cd x y = false) := by
  cases cd with
  | eq => by_cases h : x = y; exact Or.inl ⟨h, (teq h).1⟩; exact Or.inr ⟨h, (feq h).1⟩
  | ne => by_cases h : x = y; exact Or.inr ⟨h, (teq h).2⟩; exact Or.inl ⟨h, (feq h).2⟩
  | lt => by_cases h : x < y; exact Or.inl ⟨h, (tlt h).1⟩; exact Or.inr ⟨h, (flt h).1⟩
  | ge => by_cases h : x < y; exact Or.inr ⟨h, (tlt h).2.1⟩; exact Or.inl ⟨h, (flt h).2.1⟩
  | gt => by_cases h : y < x; exact Or.inl ⟨h, (tlt h).2.2.1⟩; exact Or.inr ⟨h, (flt h).2.2.1⟩
  | le => by_cases h : y < x; exact Or.inr ⟨h, (tlt h).2.2.2⟩; exact Or.inl ⟨h, (flt h).2.2.2⟩
def lY : ClassFile.Cond → Int64 → Int64 → Prop
  | .eq, x, y => x = y
  | .ne, x, y => ¬ x = y
  | .lt, x, y => x < y
  | .ge, x, y => ¬ x < y
  | .gt, x, y => y < x
  | .le, x, y => ¬ y < x
def lN : ClassFile.Cond → Int64 → Int64 → Prop
  | .eq, x, y => ¬ x = y
  | .ne, x, y => x = y
  | .lt, x, y => ¬ x < y
  | .ge, x, y => x < y
  | .gt, x, y => ¬ y < x
  | .le, x, y => y < x
theorem lYc {cd : ClassFile.Cond} {x y : Int64} (h : cY cd (lcmpW x y) 0) : lY cd x y := by
  rw [lcW] at h
  cases cd with
  | eq => exact (lc_eq x y).mp h
  | ne => exact fun q => h ((lc_eq x y).mpr q)
  | lt => exact (lc_lt x y).mp h
  | ge => exact fun q => h ((lc_lt x y).mpr q)
  | gt => exact (lc_gt x y).mp h
  | le => exact fun q => h ((lc_gt x y).mpr q)
theorem lNc {cd : ClassFile.Cond} {x y : Int64} (h : cN cd (lcmpW x y) 0) : lN cd x y := by
  rw [lcW] at h
  cases cd with
  | eq => exact fun q => h ((lc_eq x y).mpr q)
  | ne => exact (lc_eq x y).mp h
  | lt => exact fun q => h ((lc_lt x y).mpr q)
  | ge => exact (lc_lt x y).mp h
  | gt => exact fun q => h ((lc_gt x y).mpr q)
  | le => exact (lc_gt x y).mp h
theorem icmp (X : Stand p l e R s m args below meth c T locs cells slots) (hx : p.tables.exec = Jvm.exec) {cd : ClassFile.Cond} {x y : Int32} {o : Int} (hd : decode c.code pc = .ok (.if_icmp cd o, 3)) (ho : 0 ≤ (pc : Int) + o) (hp : ((pc : Int) + o).toNat = pc') (hq : pc + 3 = pc'')
    (ky : cY cd x y → Gl p e below s P C N T (mkF m pc' Ls S)) (kn : cN cd x y → Gl p e below s P C N T (mkF m pc'' Ls S)) : Gl p e below s P C N T (mkF m pc Ls (.int y :: .int x :: S)) := by
  subst hq
  rcases cOr cd x y with ⟨h1, h2⟩ | ⟨h1, h2⟩
  · exact s1 _ (fun t k => XS.icmpYes X.here hx rfl (pc0 := pc) (pc' := pc') rfl hd rfl h2 ho hp k) (ky h1)
  · exact s1 _ (fun t k => XS.icmpNo X.here hx rfl hd rfl h2 k) (kn h1)
theorem ifc (X : Stand p l e R s m args below meth c T locs cells slots) (hx : p.tables.exec = Jvm.exec) {cd : ClassFile.Cond} {x : Int32} {o : Int} (hd : decode c.code pc = .ok (.ifCond cd o, 3)) (ho : 0 ≤ (pc : Int) + o) (hp : ((pc : Int) + o).toNat = pc') (hq : pc + 3 = pc'')
    (ky : cY cd x 0 → Gl p e below s P C N T (mkF m pc' Ls S)) (kn : cN cd x 0 → Gl p e below s P C N T (mkF m pc'' Ls S)) : Gl p e below s P C N T (mkF m pc Ls (.int x :: S)) := by
  subst hq
  rcases cOr cd x 0 with ⟨h1, h2⟩ | ⟨h1, h2⟩
  · exact s1 _ (fun t k => XS.ifYes X.here hx rfl (pc0 := pc) (pc' := pc') rfl hd rfl ((if0 _ _).trans h2) ho hp k) (ky h1)
  · exact s1 _ (fun t k => XS.ifNo X.here hx rfl hd rfl ((if0 _ _).trans h2) k) (kn h1)
theorem lif (X : Stand p l e R s m args below meth c T locs cells slots) (hx : p.tables.exec = Jvm.exec) {cd : ClassFile.Cond} {x y : Int64} {o : Int} (hd1 : decode c.code pc = .ok (.lcmp, 1)) {pc1 : Nat} (h1 : pc + 1 = pc1) (hd : decode c.code pc1 = .ok (.ifCond cd o, 3)) (ho : 0 ≤ (pc1 : Int) + o) (hp : ((pc1 : Int) + o).toNat = pc') (hq : pc1 + 3 = pc'')
    (ky : lY cd x y → Gl p e below s P C N T (mkF m pc' Ls S)) (kn : lN cd x y → Gl p e below s P C N T (mkF m pc'' Ls S)) : Gl p e below s P C N T (mkF m pc Ls (.long y :: .long x :: S)) := by
  subst h1
  exact s1 (mkF m (pc + 1) Ls (.int (lcmpW x y) :: S)) (fun t k => XS.lcmp X.here hx rfl hd1 rfl k) (ifc X hx hd ho hp hq (fun h => ky (lYc h)) (fun h => kn (lNc h)))
end Walk
/-! arrays of ints and of longs, by what each place holds -/
section Arrays
variable {Z : State} {h h' : Heap} {a b : Addr} {ty : FieldType} {n : Nat} {f : Nat → Int32} {q : Nat → Int64}
def up {α : Type} (f : Nat → α) (j : Nat) (v : α) : Nat → α := fun k => if k = j then v else f k
theorem up_same {α : Type} (f : Nat → α) (j : Nat) (v : α) : up f j v j = v := if_pos rfl
theorem up_other {α : Type} (f : Nat → α) {j k : Nat} (v : α) (h : ¬ k = j) : up f j v k = f k := if_neg h
def AI (Z : State) (h : Heap) (a : Addr) (ty : FieldType) (n : Nat) (f : Nat → Int32) : Prop := ∃ c : Cell, Arr Z h a c ty ∧ c.slots.size = n ∧ ∀ k, k < n → c.slots[k]? = some (.int (f k))
def AJ (Z : State) (h : Heap) (a : Addr) (n : Nat) (f : Nat → Int64) : Prop := ∃ c : Cell, Arr Z h a c .long ∧ c.slots.size = n ∧ ∀ k, k < n → c.slots[k]? = some (.long (f k))
theorem AI.lt (F : AI Z h a ty n f) : a < h.size := by obtain ⟨c, A, -⟩ := F; exact A.lt
theorem AJ.lt (F : AJ Z h a n q) : a < h.size := by obtain ⟨c, A, -⟩ := F; exact A.lt
theorem AI.ext (F : AI Z h a ty n f) (E : Ext h h') : AI Z h' a ty n f := by obtain ⟨c, A, r⟩ := F; exact ⟨c, A.ext E, r⟩
theorem AJ.ext (F : AJ Z h a n q) (E : Ext h h') : AJ Z h' a n q := by obtain ⟨c, A, r⟩ := F; exact ⟨c, A.ext E, r⟩
theorem AI.other {sl : Nat} {v : Value} (F : AI Z h b ty n f) (W : Wr h h' a sl v) (e : b ≠ a) : AI Z h' b ty n f := by obtain ⟨c, A, r⟩ := F; exact ⟨c, A.other W e, r⟩
theorem AJ.other {sl : Nat} {v : Value} (F : AJ Z h b n q) (W : Wr h h' a sl v) (e : b ≠ a) : AJ Z h' b n q := by obtain ⟨c, A, r⟩ := F; exact ⟨c, A.other W e, r⟩
theorem AI.keep {ws : List Addr} (F : AI Z h a ty n f) (K : Keep h h' ws) (e : a ∉ ws) : AI Z h' a ty n f := by obtain ⟨c, A, r⟩ := F; exact ⟨c, ⟨K.2.1 a c A.1 e, A.2⟩, r⟩
theorem AJ.keep {ws : List Addr} (F : AJ Z h a n q) (K : Keep h h' ws) (e : a ∉ ws) : AJ Z h' a n q := by obtain ⟨c, A, r⟩ := F; exact ⟨c, ⟨K.2.1 a c A.1 e, A.2⟩, r⟩
theorem slots_set {c : Cell} {j k : Nat} {v : Value} (hj : j < c.slots.size) : (c.setSlot j v).slots[k]? = if k = j then some v else c.slots[k]? := by
  by_cases e : k = j
  · subst e; simp [Cell.setSlot, hj]
  · simp only [Cell.setSlot, if_neg e]; exact Array.getElem?_setIfInBounds_ne (Ne.symm e)
theorem AI.set {j : Nat} {v : Int32} (F : AI Z h a ty n f) (W : Wr h h' a j (.int v)) (hj : j < n) : AI Z h' a ty n (up f j v) := by
  obtain ⟨c, A, r1, r2⟩ := F
  refine ⟨_, A.same W, by rw [sz_set]; exact r1, fun k hk => ?_⟩
  rw [slots_set (by omega)]
  by_cases e : k = j
  · rw [if_pos e, e, up_same]
  · rw [if_neg e, up_other _ _ e]; exact r2 k hk
theorem AJ.set {j : Nat} {v : Int64} (F : AJ Z h a n q) (W : Wr h h' a j (.long v)) (hj : j < n) : AJ Z h' a n (up q j v) := by
  obtain ⟨c, A, r1, r2⟩ := F
  refine ⟨_, A.same W, by rw [sz_set]; exact r1, fun k hk => ?_⟩
  rw [slots_set (by omega)]
  by_cases e : k = j
  · rw [if_pos e, e, up_same]
  · rw [if_neg e, up_other _ _ e]; exact r2 k hk
theorem clamp {z : Int32} (hz : z.toInt = n) : z.toNatClampNeg = n := by simp only [Int32.toNatClampNeg]; omega
theorem AI.new {k : ClassId} {z : Int32} (A : Arr Z h a (newA k ty z) ty) (hz : z.toInt = n) (hd : defaultValue ty = .int 0) : AI Z h a ty n (fun _ => 0) :=
  ⟨_, A, by rw [sz_new]; exact clamp hz, fun i hi => by rw [← clamp hz] at hi; simp [newA, hi, hd]⟩
theorem AJ.new {k : ClassId} {z : Int32} (A : Arr Z h a (newA k .long z) .long) (hz : z.toInt = n) : AJ Z h a n (fun _ => 0) :=
  ⟨_, A, by rw [sz_new]; exact clamp hz, fun i hi => by rw [← clamp hz] at hi; simp [newA, hi, defaultValue]⟩
theorem AI.congr {f' : Nat → Int32} (F : AI Z h a ty n f) (e : ∀ k, k < n → f' k = f k) : AI Z h a ty n f' := by obtain ⟨c, A, r1, r2⟩ := F; exact ⟨c, A, r1, fun k hk => by rw [e k hk]; exact r2 k hk⟩
theorem AJ.congr {f' : Nat → Int64} (F : AJ Z h a n q) (e : ∀ k, k < n → f' k = q k) : AJ Z h a n f' := by obtain ⟨c, A, r1, r2⟩ := F; exact ⟨c, A, r1, fun k hk => by rw [e k hk]; exact r2 k hk⟩
theorem inb {j : Int32} {k sz : Nat} (hj : j.toInt = k) (hk : k < sz) : ¬ (j < 0 ∨ sz ≤ j.toNatClampNeg) := by
  rw [clamp hj, Int32.lt_iff_toInt_lt, hj, show (0 : Int32).toInt = 0 from rfl]; omega
theorem szI {z : Int32} (hz : z.toInt = n) : Nat.toInt32 n = z := by
  rw [← Int32.toInt_inj, len_toInt (by have := z.toInt_lt; omega), hz]
end Arrays
section Steps
variable {p : Program} {l : Launch} {e : Env} {R : Room} {s : State} {m : MethodId} {args : Array Value} {below : List Frame} {meth : Method} {c : Code} {T T' : State} {locs : List Loc} {cells slots : Nat} {P : Option Value → Heap → List Loc → Prop} {C N : Nat} {Ls : Array Slot} {S : List Value} {pc pc' : Nat} {Z : State} {h : Heap} {a : Addr} {n n0 : Nat} {f : Nat → Int32} {q : Nat → Int64} {a0 : Array Value} {ty : FieldType}
theorem getf (X : Stand p l e R s m args below meth c T locs cells slots) (hx : p.tables.exec = Jvm.exec) (hZ : Z.Warmed39 s.vm) {own R0 O n d host : String} {index : Nat} (hown : s.vm.findClass own = some m.cls) (w : (Cond.fieldLink own index R0 n d).before a0 Z = true ∨ (Cond.fieldLinkNest own index R0 n d host).before a0 Z = true) (via : Via Z R0 O n d)
    (eT : T.heap = h) {v : Value} (F : Fld Z h a O n d v) (hd : decode c.code pc = .ok (.getfield index, 3)) (hq : pc + 3 = pc') (K : ∀ T', Stand p l e R s m args below meth c T' locs cells slots → T'.heap = h → Gl p e below s P C N T' (mkF m pc' Ls (v :: S))) : Gl p e below s P C N T (mkF m pc Ls (.ref a :: S)) := by
  subst hq
  obtain ⟨T', X', e', st⟩ := getF X hx hZ hown w via eT F (g := mkF m pc Ls (.ref a :: S)) rfl rfl hd
  exact s2 _ st (K T' X' e')
theorem gets (X : Stand p l e R s m args below meth c T locs cells slots) (hx : p.tables.exec = Jvm.exec) (hZ : Z.Warmed39 s.vm) {own R0 O n d host : String} {index : Nat} (hown : s.vm.findClass own = some m.cls) (w : (Cond.fieldLink own index R0 n d).before a0 Z = true ∨ (Cond.fieldLinkNest own index R0 n d host).before a0 Z = true) (via : Via Z R0 O n d)
    (eT : T.heap = h) {v : Value} (F : Sta Z h O n d v) (hd : decode c.code pc = .ok (.getstatic index, 3)) (hq : pc + 3 = pc') (K : ∀ T', Stand p l e R s m args below meth c T' locs cells slots → T'.heap = h → Gl p e below s P C N T' (mkF m pc' Ls (v :: S))) : Gl p e below s P C N T (mkF m pc Ls S) := by
  subst hq
  obtain ⟨T', X', e', st⟩ := getS2 X hx hZ hown w via eT F (g := mkF m pc Ls S) rfl hd
  exact s2 _ st (K T' X' e')
theorem putf (X : Stand p l e R s m args below meth c T locs cells slots) (hx : p.tables.exec = Jvm.exec) (hZ : Z.Warmed39 s.vm) {own R0 O n d host Cl : String} {index kk : Nat} (hown : s.vm.findClass own = some m.cls) (w : (Cond.fieldLink own index R0 n d).before a0 Z = true ∨ (Cond.fieldLinkNest own index R0 n d host).before a0 Z = true) (via : Via Z R0 O n d)
    (eT : T.heap = h) {v old : Value} (F : Fld Z h a O n d old) (E : Exa Z h a Cl) (L : (Cond.lays Cl O n d).before a0 Z = true ∨ ((Cond.laysFinal Cl O n d).before a0 Z = true ∧ own = O ∧ meth.name = "<init>")) (wi : (Cond.instantiable Cl kk).before a0 Z = true)
    (hty : parseFieldDescriptor d = some ty) (hn : narrow ty v = v) (hf : fits ty v = true) (N0 : Fr n0 locs) (ga : n0 ≤ a) (hd : decode c.code pc = .ok (.putfield index, 3)) (hq : pc + 3 = pc')
    (K : ∀ T' h' L', Stand p l e R s m args below meth c T' L' cells slots → T'.heap = h' → Wr h h' a (RoadKit.slotOf Z O n d) v → Fld Z h' a O n d v → Fr n0 L' → Gl p e below s P C N T' (mkF m pc' Ls S)) : Gl p e below s P C N T (mkF m pc Ls (v :: .ref a :: S)) := by
  subst hq
  obtain ⟨T', h', X', e', W, st⟩ := putF X hx hZ hown w via eT F E L wi hty hn hf (g := mkF m pc Ls (v :: .ref a :: S)) rfl rfl hd
  exact s2 _ st (K T' h' _ X' e' W (F.same W) (Fr.snoc X' N0 ga))
theorem newo (X : Stand p l e R s m args below meth c T locs cells slots) (hx : p.tables.exec = Jvm.exec) (hZ : Z.Warmed39 s.vm) {own Cl : String} {index n : Nat} (hown : s.vm.findClass own = some m.cls) (w : (Cond.classLink own index Cl).before a0 Z = true) (wi : (Cond.instantiable Cl n).before a0 Z = true) (wz : (Cond.initialized Cl).before a0 Z = true) (eT : T.heap = h)
    (hd : decode c.code pc = .ok (.new index, 3)) (hc : cells + 1 ≤ R.cells) (hl : slots + n ≤ R.slots) (hq : pc + 3 = pc')
    (K : ∀ T' h' a, Stand p l e R s m args below meth c T' locs (cells + 1) (slots + n) → T'.heap = h' → Ext h h' → a = h.size → Exa Z h' a Cl → (∀ {O nm d : String} {ty : FieldType}, Laid Z a0 Cl O nm d → parseFieldDescriptor d = some ty → Fld Z h' a O nm d (defaultValue ty)) → Gl p e below s P C N T' (mkF m pc' Ls (.ref a :: S))) : Gl p e below s P C N T (mkF m pc Ls S) := by
  subst hq
  obtain ⟨T', h', X', e', E, A, D, -, st⟩ := newO X hx hZ hown w wi wz eT (g := mkF m pc Ls S) rfl hd hc hl
  exact s2 _ st (K T' h' _ X' e' E rfl A D)
theorem newi (X : Stand p l e R s m args below meth c T locs cells slots) (hx : p.tables.exec = Jvm.exec) (hZ : Z.Warmed39 s.vm) {aty : ArrayType} (w : (Cond.arrayClass ty).before a0 Z = true) (hty : newarray.typeOf aty = ty) (hdv : defaultValue ty = .int 0) (eT : T.heap = h) {z : Int32} (hd : decode c.code pc = .ok (.newarray aty, 2)) (hz : z.toInt = n) {cap : Nat} (hcap : n ≤ cap) (hb : cap * 8 ≤ 536870912) (hc : cells + 1 ≤ R.cells) (hl : slots + cap ≤ R.slots) (hq : pc + 2 = pc')
    (K : ∀ T' h' a, Stand p l e R s m args below meth c T' locs (cells + 1) (slots + cap) → T'.heap = h' → Ext h h' → a = h.size → AI Z h' a ty n (fun _ => 0) → Gl p e below s P C N T' (mkF m pc' Ls (.ref a :: S))) : Gl p e below s P C N T (mkF m pc Ls (.int z :: S)) := by
  subst hq hty
  obtain ⟨T', h', k, X', e', E, A, st⟩ := newP X hx hZ w eT (g := mkF m pc Ls (.int z :: S)) rfl hd rfl (by rw [Int32.lt_iff_toInt_lt, hz, show (0 : Int32).toInt = 0 from rfl]; omega) (cap := cap) (by rw [clamp hz]; exact hcap) hb hc hl
  exact s2 _ st (K T' h' _ X' e' E rfl (AI.new A hz hdv))
theorem newj (X : Stand p l e R s m args below meth c T locs cells slots) (hx : p.tables.exec = Jvm.exec) (hZ : Z.Warmed39 s.vm) (w : (Cond.arrayClass .long).before a0 Z = true) (eT : T.heap = h) {z : Int32} (hd : decode c.code pc = .ok (.newarray .long, 2)) (hz : z.toInt = n) {cap : Nat} (hcap : n ≤ cap) (hb : cap * 8 ≤ 536870912) (hc : cells + 1 ≤ R.cells) (hl : slots + cap ≤ R.slots) (hq : pc + 2 = pc')
    (K : ∀ T' h' a, Stand p l e R s m args below meth c T' locs (cells + 1) (slots + cap) → T'.heap = h' → Ext h h' → a = h.size → AJ Z h' a n (fun _ => 0) → Gl p e below s P C N T' (mkF m pc' Ls (.ref a :: S))) : Gl p e below s P C N T (mkF m pc Ls (.int z :: S)) := by
  subst hq
  obtain ⟨T', h', k, X', e', E, A, st⟩ := newP X hx hZ (aty := .long) w eT (g := mkF m pc Ls (.int z :: S)) rfl hd rfl (by rw [Int32.lt_iff_toInt_lt, hz, show (0 : Int32).toInt = 0 from rfl]; omega) (cap := cap) (by rw [clamp hz]; exact hcap) hb hc hl
  exact s2 _ st (K T' h' _ X' e' E rfl (AJ.new A hz))
theorem ldi (X : Stand p l e R s m args below meth c T locs cells slots) (hx : p.tables.exec = Jvm.exec) (hZ : Z.Warmed39 s.vm) (eT : T.heap = h) (F : AI Z h a .int n f) {j : Int32} (k : Nat) (hj : j.toInt = k) (hk : k < n) (hd : decode c.code pc = .ok (.iaload, 1)) (hq : pc + 1 = pc')
    (K : Gl p e below s P C N T (mkF m pc' Ls (.int (f k) :: S))) : Gl p e below s P C N T (mkF m pc Ls (.int j :: .ref a :: S)) := by
  subst hq
  obtain ⟨cl, A, r1, r2⟩ := F
  exact s1 _ (fun t q => X.iaload hx (v := .int (f k)) (by rw [eT]; exact A.1) (State.isArrayOf_alike hZ.alike A.2.1) A.2.2 (inb hj (by omega)) (by rw [clamp hj]; exact r2 k hk) (g := mkF m pc Ls (.int j :: .ref a :: S)) rfl rfl hd t q) K
theorem ldz (X : Stand p l e R s m args below meth c T locs cells slots) (hx : p.tables.exec = Jvm.exec) (hZ : Z.Warmed39 s.vm) (eT : T.heap = h) (F : AI Z h a .boolean n f) {j : Int32} (k : Nat) (hj : j.toInt = k) (hk : k < n) (hd : decode c.code pc = .ok (.baload, 1)) (hq : pc + 1 = pc')
    (K : Gl p e below s P C N T (mkF m pc' Ls (.int (f k) :: S))) : Gl p e below s P C N T (mkF m pc Ls (.int j :: .ref a :: S)) := by
  subst hq
  obtain ⟨cl, A, r1, r2⟩ := F
  exact s1 _ (fun t q => X.baloadBooleans hx (v := .int (f k)) (by rw [eT]; exact A.1) (State.isArrayOf_alike hZ.alike A.2.1) A.2.2 (inb hj (by omega)) (by rw [clamp hj]; exact r2 k hk) (g := mkF m pc Ls (.int j :: .ref a :: S)) rfl rfl hd t q) K
theorem ldb (X : Stand p l e R s m args below meth c T locs cells slots) (hx : p.tables.exec = Jvm.exec) (hZ : Z.Warmed39 s.vm) (eT : T.heap = h) (F : AI Z h a .byte n f) {j : Int32} (k : Nat) (hj : j.toInt = k) (hk : k < n) (hd : decode c.code pc = .ok (.baload, 1)) (hq : pc + 1 = pc')
    (K : Gl p e below s P C N T (mkF m pc' Ls (.int (f k) :: S))) : Gl p e below s P C N T (mkF m pc Ls (.int j :: .ref a :: S)) := by
  subst hq
  obtain ⟨cl, A, r1, r2⟩ := F
  exact s1 _ (fun t q => X.baloadBytes hx (v := .int (f k)) (by rw [eT]; exact A.1) (State.isArrayOf_alike hZ.alike A.2.1) A.2.2 (inb hj (by omega)) (by rw [clamp hj]; exact r2 k hk) (g := mkF m pc Ls (.int j :: .ref a :: S)) rfl rfl hd t q) K
theorem ldj (X : Stand p l e R s m args below meth c T locs cells slots) (hx : p.tables.exec = Jvm.exec) (hZ : Z.Warmed39 s.vm) (eT : T.heap = h) (F : AJ Z h a n q) {j : Int32} (k : Nat) (hj : j.toInt = k) (hk : k < n) (hd : decode c.code pc = .ok (.laload, 1)) (hq : pc + 1 = pc')
    (K : Gl p e below s P C N T (mkF m pc' Ls (.long (q k) :: S))) : Gl p e below s P C N T (mkF m pc Ls (.int j :: .ref a :: S)) := by
  subst hq
  obtain ⟨cl, A, r1, r2⟩ := F
  exact s1 _ (fun t u => X.laload hx (v := .long (q k)) (by rw [eT]; exact A.1) (State.isArrayOf_alike hZ.alike A.2.1) A.2.2 (inb hj (by omega)) (by rw [clamp hj]; exact r2 k hk) (g := mkF m pc Ls (.int j :: .ref a :: S)) rfl rfl hd t u) K
theorem alen (X : Stand p l e R s m args below meth c T locs cells slots) (hx : p.tables.exec = Jvm.exec) (hZ : Z.Warmed39 s.vm) (eT : T.heap = h) (F : AI Z h a ty n f) {z : Int32} (hz : z.toInt = n) (hd : decode c.code pc = .ok (.arraylength, 1)) (hq : pc + 1 = pc')
    (K : Gl p e below s P C N T (mkF m pc' Ls (.int z :: S))) : Gl p e below s P C N T (mkF m pc Ls (.ref a :: S)) := by
  subst hq
  obtain ⟨cl, A, r1, r2⟩ := F
  exact s1 _ (fun t u => X.arraylength hx (by rw [eT]; exact A.1) (State.isArrayOf_alike hZ.alike A.2.1) (g := mkF m pc Ls (.ref a :: S)) rfl rfl hd t (by rw [r1, szI hz]; exact u)) K
theorem alenJ (X : Stand p l e R s m args below meth c T locs cells slots) (hx : p.tables.exec = Jvm.exec) (hZ : Z.Warmed39 s.vm) (eT : T.heap = h) (F : AJ Z h a n q) {z : Int32} (hz : z.toInt = n) (hd : decode c.code pc = .ok (.arraylength, 1)) (hq : pc + 1 = pc')
    (K : Gl p e below s P C N T (mkF m pc' Ls (.int z :: S))) : Gl p e below s P C N T (mkF m pc Ls (.ref a :: S)) := by
  subst hq
  obtain ⟨cl, A, r1, r2⟩ := F
  exact s1 _ (fun t u => X.arraylength hx (by rw [eT]; exact A.1) (State.isArrayOf_alike hZ.alike A.2.1) (g := mkF m pc Ls (.ref a :: S)) rfl rfl hd t (by rw [r1, szI hz]; exact u)) K
theorem sti (X : Stand p l e R s m args below meth c T locs cells slots) (hx : p.tables.exec = Jvm.exec) (hZ : Z.Warmed39 s.vm) (eT : T.heap = h) (F : AI Z h a .int n f) {j x : Int32} (k : Nat) (hj : j.toInt = k) (hk : k < n) (N0 : Fr n0 locs) (ga : n0 ≤ a) (hd : decode c.code pc = .ok (.iastore, 1)) (hq : pc + 1 = pc')
    (K : ∀ T' h' L', Stand p l e R s m args below meth c T' L' cells slots → T'.heap = h' → Wr h h' a k (.int x) → AI Z h' a .int n (up f k x) → Fr n0 L' → Gl p e below s P C N T' (mkF m pc' Ls S)) : Gl p e below s P C N T (mkF m pc Ls (.int x :: .int j :: .ref a :: S)) := by
  subst hq
  obtain ⟨cl, A, r1, r2⟩ := F
  obtain ⟨T', h', X', e', W, st⟩ := stI X hx hZ eT A (inb hj (by omega)) (g := mkF m pc Ls (.int x :: .int j :: .ref a :: S)) rfl rfl hd
  have N1 := Fr.snoc X' N0 ga
  rw [clamp hj] at W
  exact s2 _ st (K T' h' _ X' e' W (AI.set ⟨cl, A, r1, r2⟩ W hk) N1)
theorem stz (X : Stand p l e R s m args below meth c T locs cells slots) (hx : p.tables.exec = Jvm.exec) (hZ : Z.Warmed39 s.vm) (eT : T.heap = h) (F : AI Z h a .boolean n f) {j x x' : Int32} (hn : nar .boolean x = x') (k : Nat) (hj : j.toInt = k) (hk : k < n) (N0 : Fr n0 locs) (ga : n0 ≤ a) (hd : decode c.code pc = .ok (.bastore, 1)) (hq : pc + 1 = pc')
    (K : ∀ T' h' L', Stand p l e R s m args below meth c T' L' cells slots → T'.heap = h' → Wr h h' a k (.int x') → AI Z h' a .boolean n (up f k x') → Fr n0 L' → Gl p e below s P C N T' (mkF m pc' Ls S)) : Gl p e below s P C N T (mkF m pc Ls (.int x :: .int j :: .ref a :: S)) := by
  subst hq hn
  obtain ⟨cl, A, r1, r2⟩ := F
  obtain ⟨T', h', X', e', W, st⟩ := stZ X hx hZ eT A (inb hj (by omega)) (g := mkF m pc Ls (.int x :: .int j :: .ref a :: S)) rfl rfl hd
  have N1 := Fr.snoc X' N0 ga
  rw [clamp hj] at W
  exact s2 _ st (K T' h' _ X' e' W (AI.set ⟨cl, A, r1, r2⟩ W hk) N1)
theorem stb (X : Stand p l e R s m args below meth c T locs cells slots) (hx : p.tables.exec = Jvm.exec) (hZ : Z.Warmed39 s.vm) (eT : T.heap = h) (F : AI Z h a .byte n f) {j x x' : Int32} (hn : nar .byte x = x') (k : Nat) (hj : j.toInt = k) (hk : k < n) (N0 : Fr n0 locs) (ga : n0 ≤ a) (hd : decode c.code pc = .ok (.bastore, 1)) (hq : pc + 1 = pc')
    (K : ∀ T' h' L', Stand p l e R s m args below meth c T' L' cells slots → T'.heap = h' → Wr h h' a k (.int x') → AI Z h' a .byte n (up f k x') → Fr n0 L' → Gl p e below s P C N T' (mkF m pc' Ls S)) : Gl p e below s P C N T (mkF m pc Ls (.int x :: .int j :: .ref a :: S)) := by
  subst hq hn
  obtain ⟨cl, A, r1, r2⟩ := F
  obtain ⟨T', h', X', e', W, st⟩ := stB X hx hZ eT A (inb hj (by omega)) (g := mkF m pc Ls (.int x :: .int j :: .ref a :: S)) rfl rfl hd
  have N1 := Fr.snoc X' N0 ga
  rw [clamp hj] at W
  exact s2 _ st (K T' h' _ X' e' W (AI.set ⟨cl, A, r1, r2⟩ W hk) N1)
theorem stj (X : Stand p l e R s m args below meth c T locs cells slots) (hx : p.tables.exec = Jvm.exec) (hZ : Z.Warmed39 s.vm) (eT : T.heap = h) (F : AJ Z h a n q) {j : Int32} {x : Int64} (k : Nat) (hj : j.toInt = k) (hk : k < n) (N0 : Fr n0 locs) (ga : n0 ≤ a) (hd : decode c.code pc = .ok (.lastore, 1)) (hq : pc + 1 = pc')
    (K : ∀ T' h' L', Stand p l e R s m args below meth c T' L' cells slots → T'.heap = h' → Wr h h' a k (.long x) → AJ Z h' a n (up q k x) → Fr n0 L' → Gl p e below s P C N T' (mkF m pc' Ls S)) : Gl p e below s P C N T (mkF m pc Ls (.long x :: .int j :: .ref a :: S)) := by
  subst hq
  obtain ⟨cl, A, r1, r2⟩ := F
  obtain ⟨T', h', X', e', W, st⟩ := stJ X hx hZ eT A (inb hj (by omega)) (g := mkF m pc Ls (.long x :: .int j :: .ref a :: S)) rfl rfl hd
  have N1 := Fr.snoc X' N0 ga
  rw [clamp hj] at W
  exact s2 _ st (K T' h' _ X' e' W (AJ.set ⟨cl, A, r1, r2⟩ W hk) N1)
end Steps
end Jvm.Pilot.@@N@@.W
namespace Jvm.Pilot.@@N@@.W
open Jvm Jvm.ClassFile Sem Op Lib Jvm.Free Jvm.Stand Jvm.LawKit Jvm.RoadKit
/-! own kit, third part: arrays of references -/
section Refs
variable {Z : State} {h h' : Heap} {a b : Addr} {ty : FieldType} {n : Nat} {f : Nat → Value} {O : ClassId → Prop}
def AR (Z : State) (h : Heap) (a : Addr) (ty : FieldType) (O : ClassId → Prop) (n : Nat) (f : Nat → Value) : Prop := ∃ c : Cell, Arr Z h a c ty ∧ O c.cls ∧ c.slots.size = n ∧ ∀ k, k < n → c.slots[k]? = some (f k)
theorem AR.lt (F : AR Z h a ty O n f) : a < h.size := by obtain ⟨c, A, -⟩ := F; exact A.lt
theorem AR.ext (F : AR Z h a ty O n f) (E : Ext h h') : AR Z h' a ty O n f := by obtain ⟨c, A, r⟩ := F; exact ⟨c, A.ext E, r⟩
theorem AR.other {sl : Nat} {v : Value} (F : AR Z h b ty O n f) (W : Wr h h' a sl v) (e : b ≠ a) : AR Z h' b ty O n f := by obtain ⟨c, A, r⟩ := F; exact ⟨c, A.other W e, r⟩
theorem AR.keep {ws : List Addr} (F : AR Z h a ty O n f) (K : Keep h h' ws) (e : a ∉ ws) : AR Z h' a ty O n f := by obtain ⟨c, A, r⟩ := F; exact ⟨c, ⟨K.2.1 a c A.1 e, A.2⟩, r⟩
theorem AR.set {j : Nat} {v : Value} (F : AR Z h a ty O n f) (W : Wr h h' a j v) (hj : j < n) : AR Z h' a ty O n (up f j v) := by
  obtain ⟨c, A, o, r1, r2⟩ := F
  refine ⟨_, A.same W, o, by rw [sz_set]; exact r1, fun k hk => ?_⟩
  rw [slots_set (by omega)]
  by_cases e : k = j
  · rw [if_pos e, e, up_same]
  · rw [if_neg e, up_other _ _ e]; exact r2 k hk
theorem AR.new {k : ClassId} {z : Int32} (A : Arr Z h a (newA k ty z) ty) (o : O k) (hz : z.toInt = n) (hd : defaultValue ty = .null) : AR Z h a ty O n (fun _ => .null) :=
  ⟨_, A, o, by rw [sz_new]; exact clamp hz, fun i hi => by rw [← clamp hz] at hi; simp [newA, hi, hd]⟩
theorem AR.sto {v : Value} (F : AR Z h a ty O n f) (hs : ∀ c : Cell, Arr Z h a c ty → O c.cls → Sto Z h a v) : Sto Z h a v := by obtain ⟨c, A, o, -⟩ := F; exact hs c A o
end Refs
section RSteps
variable {p : Program} {l : Launch} {e : Env} {R : Room} {s : State} {m : MethodId} {args : Array Value} {below : List Frame} {meth : Method} {c : Code} {T T' : State} {locs : List Loc} {cells slots : Nat} {P : Option Value → Heap → List Loc → Prop} {C N : Nat} {Ls : Array Slot} {S : List Value} {pc pc' : Nat} {Z : State} {h : Heap} {a : Addr} {n n0 : Nat} {f : Nat → Value} {a0 : Array Value} {ty : FieldType} {O : ClassId → Prop}
theorem newra (X : Stand p l e R s m args below meth c T locs cells slots) (hx : p.tables.exec = Jvm.exec) (hZ : Z.Warmed39 s.vm) {own Cl : String} {index : Nat} (hown : s.vm.findClass own = some m.cls) (hC : (FieldType.array ty).toString = Cl) (w1 : (Cond.classLink own index Cl).before a0 Z = true) (w2 : (Cond.arrayOver (.array ty)).before a0 Z = true)
    (eT : T.heap = h) {z : Int32} (hd : decode c.code pc = .ok (.anewarray index, 3)) (hz : z.toInt = n) {cap : Nat} (hcap : n ≤ cap) (hb : cap * 8 ≤ 536870912) (hc : cells + 1 ≤ R.cells) (hl : slots + cap ≤ R.slots) (hq : pc + 3 = pc')
    (K : ∀ T' h' a, Stand p l e R s m args below meth c T' locs (cells + 1) (slots + cap) → T'.heap = h' → Ext h h' → a = h.size → AR Z h' a (.array ty) (fun k => OvrA Z k ty Cl) n (fun _ => .null) → Gl p e below s P C N T' (mkF m pc' Ls (.ref a :: S))) : Gl p e below s P C N T (mkF m pc Ls (.int z :: S)) := by
  subst hq
  obtain ⟨T', h', k, X', e', E, A, -, o, st⟩ := newRA X hx hZ hown hC w1 w2 eT (g := mkF m pc Ls (.int z :: S)) rfl hd rfl (by rw [Int32.lt_iff_toInt_lt, hz, show (0 : Int32).toInt = 0 from rfl]; omega) (cap := cap) (by rw [clamp hz]; exact hcap) hb hc hl rfl
  exact s2 _ st (K T' h' _ X' e' E rfl (AR.new A o hz rfl))
theorem newr (X : Stand p l e R s m args below meth c T locs cells slots) (hx : p.tables.exec = Jvm.exec) (hZ : Z.Warmed39 s.vm) {own Cl : String} {index : Nat} (hown : s.vm.findClass own = some m.cls) (w1 : (Cond.classLink own index Cl).before a0 Z = true) (w2 : (Cond.arrayOver (.object Cl)).before a0 Z = true)
    (eT : T.heap = h) {z : Int32} (hd : decode c.code pc = .ok (.anewarray index, 3)) (hz : z.toInt = n) {cap : Nat} (hcap : n ≤ cap) (hb : cap * 8 ≤ 536870912) (hc : cells + 1 ≤ R.cells) (hl : slots + cap ≤ R.slots) (hq : pc + 3 = pc')
    (K : ∀ T' h' a, Stand p l e R s m args below meth c T' locs (cells + 1) (slots + cap) → T'.heap = h' → Ext h h' → a = h.size → AR Z h' a (.object Cl) (fun k => Ovr Z k Cl) n (fun _ => .null) → Gl p e below s P C N T' (mkF m pc' Ls (.ref a :: S))) : Gl p e below s P C N T (mkF m pc Ls (.int z :: S)) := by
  subst hq
  obtain ⟨T', h', k, X', e', E, A, o, st⟩ := newR X hx hZ hown w1 w2 eT (g := mkF m pc Ls (.int z :: S)) rfl hd rfl (by rw [Int32.lt_iff_toInt_lt, hz, show (0 : Int32).toInt = 0 from rfl]; omega) (cap := cap) (by rw [clamp hz]; exact hcap) hb hc hl
  exact s2 _ st (K T' h' _ X' e' E rfl (AR.new A o hz rfl))
theorem ldr (X : Stand p l e R s m args below meth c T locs cells slots) (hx : p.tables.exec = Jvm.exec) (hZ : Z.Warmed39 s.vm) (eT : T.heap = h) (F : AR Z h a ty O n f) (hty : ty.isReference = true) {j : Int32} (k : Nat) (hj : j.toInt = k) (hk : k < n) (hd : decode c.code pc = .ok (.aaload, 1)) (hq : pc + 1 = pc')
    (K : Gl p e below s P C N T (mkF m pc' Ls (f k :: S))) : Gl p e below s P C N T (mkF m pc Ls (.int j :: .ref a :: S)) := by
  subst hq
  obtain ⟨cl, A, -, r1, r2⟩ := F
  exact s1 _ (fun t q => X.aaload hx (v := f k) (by rw [eT]; exact A.1) (State.isArrayOf_alike hZ.alike A.2.1) hty A.2.2 (inb hj (by omega)) (by rw [clamp hj]; exact r2 k hk) (g := mkF m pc Ls (.int j :: .ref a :: S)) rfl rfl hd t q) K
theorem alenR (X : Stand p l e R s m args below meth c T locs cells slots) (hx : p.tables.exec = Jvm.exec) (hZ : Z.Warmed39 s.vm) (eT : T.heap = h) (F : AR Z h a ty O n f) {z : Int32} (hz : z.toInt = n) (hd : decode c.code pc = .ok (.arraylength, 1)) (hq : pc + 1 = pc')
    (K : Gl p e below s P C N T (mkF m pc' Ls (.int z :: S))) : Gl p e below s P C N T (mkF m pc Ls (.ref a :: S)) := by
  subst hq
  obtain ⟨cl, A, -, r1, r2⟩ := F
  exact s1 _ (fun t u => X.arraylength hx (by rw [eT]; exact A.1) (State.isArrayOf_alike hZ.alike A.2.1) (g := mkF m pc Ls (.ref a :: S)) rfl rfl hd t (by rw [r1, szI hz]; exact u)) K
theorem str (X : Stand p l e R s m args below meth c T locs cells slots) (hx : p.tables.exec = Jvm.exec) (hZ : Z.Warmed39 s.vm) (eT : T.heap = h) (F : AR Z h a ty O n f) (hty : ty.isReference = true) {j : Int32} {v : Value} (hs : Sto Z h a v) (k : Nat) (hj : j.toInt = k) (hk : k < n) (N0 : Fr n0 locs) (ga : n0 ≤ a) (hd : decode c.code pc = .ok (.aastore, 1)) (hq : pc + 1 = pc')
    (K : ∀ T' h' L', Stand p l e R s m args below meth c T' L' cells slots → T'.heap = h' → Wr h h' a k v → AR Z h' a ty O n (up f k v) → Fr n0 L' → Gl p e below s P C N T' (mkF m pc' Ls S)) : Gl p e below s P C N T (mkF m pc Ls (v :: .int j :: .ref a :: S)) := by
  subst hq
  obtain ⟨cl, A, o, r1, r2⟩ := F
  obtain ⟨T', h', X', e', W, st⟩ := stR X hx hZ eT A (inb hj (by omega)) hty hs (g := mkF m pc Ls (v :: .int j :: .ref a :: S)) rfl rfl hd
  have N1 := Fr.snoc X' N0 ga
  rw [clamp hj] at W
  exact s2 _ st (K T' h' _ X' e' W (AR.set ⟨cl, A, o, r1, r2⟩ W hk) N1)
theorem privSel {Cl : String} {k : Nat} {y : MethodName} (hZ : Z.Warmed39 s.vm) (wi : (Cond.instantiable Cl k).before a0 Z = true) (wp : (Cond.privateMethod y).before a0 Z = true) (wn : (Cond.instanceMethod y).before a0 Z = true) (hyc : y.cls = Cl) (hy : y.cls ≠ "java/lang/invoke/MethodHandle" ∧ y.cls ≠ "java/lang/invoke/VarHandle") : (Cond.selects y.cls y y).before args s = true := by
  subst hyc
  obtain ⟨c, k, h1, h2, h3, h4, -⟩ := Cond.instantiable_spec (mvT hZ wi (args := args) : (Cond.instantiable y.cls k).before args s = true)
  exact selects_self_of_private h1 h2 (Bool.or_eq_false_iff.mp h4).1 (Cond.privateMethod_at (mvP hZ wp (args := args))) (mvT hZ wn) hy
theorem dupX2 {tb : Tables} [Ours tb] {e : Env} {below : List Frame} {T target : State} {m : MethodId} {c : Code} {g : JFrame} (h : At T m c below) (hx : tb.exec = Jvm.exec) (hg : g.method = m) {x y z : Value} {rest : List Value} (hd : decode c.code g.pc = .ok (.dup_x2, 1)) (hs : g.stack = x :: y :: z :: rest) (hc : x.category = 1) (hc' : y.category = 1) (hc'' : z.category = 1)
    (hr : Steps tb e below (T.setTop { g with pc := g.pc + 1, stack := x :: y :: z :: x :: rest }) target) : Steps tb e below (T.setTop g) target := by
  subst hg
  jvm_step h [h.top, hx, hd, hs, hc, hc', hc'']
  first | exact hr | exact ⟨_, _, ⟨rfl, rfl⟩, hc'', hr⟩ | exact ⟨_, _, rfl, hc'', hr⟩ | simpa using hr
end RSteps
end Jvm.Pilot.@@N@@.W
namespace Jvm.Pilot.@@N@@.W
open Jvm Jvm.ClassFile Sem Op Lib Jvm.Free Jvm.Stand Jvm.LawKit Jvm.RoadKit
/-! own kit, fourth part: arrays of doubles -/
section Dbls
variable {Z : State} {h h' : Heap} {a b : Addr} {n : Nat} {f : Nat → UInt64}
def AD (Z : State) (h : Heap) (a : Addr) (n : Nat) (f : Nat → UInt64) : Prop := ∃ c : Cell, Arr Z h a c .double ∧ c.slots.size = n ∧ ∀ k, k < n → c.slots[k]? = some (.double (f k))
theorem AD.lt (F : AD Z h a n f) : a < h.size := by obtain ⟨c, A, -⟩ := F; exact A.lt
theorem AD.ext (F : AD Z h a n f) (E : Ext h h') : AD Z h' a n f := by obtain ⟨c, A, r⟩ := F; exact ⟨c, A.ext E, r⟩
theorem AD.other {sl : Nat} {v : Value} (F : AD Z h b n f) (W : Wr h h' a sl v) (e : b ≠ a) : AD Z h' b n f := by obtain ⟨c, A, r⟩ := F; exact ⟨c, A.other W e, r⟩
theorem AD.keep {ws : List Addr} (F : AD Z h a n f) (K : Keep h h' ws) (e : a ∉ ws) : AD Z h' a n f := by obtain ⟨c, A, r⟩ := F; exact ⟨c, ⟨K.2.1 a c A.1 e, A.2⟩, r⟩
theorem AD.set {j : Nat} {v : UInt64} (F : AD Z h a n f) (W : Wr h h' a j (.double v)) (hj : j < n) : AD Z h' a n (up f j v) := by
  obtain ⟨c, A, r1, r2⟩ := F
  refine ⟨_, A.same W, by rw [sz_set]; exact r1, fun k hk => ?_⟩
  rw [slots_set (by omega)]
  by_cases e : k = j
  · rw [if_pos e, e, up_same]
  · rw [if_neg e, up_other _ _ e]; exact r2 k hk
theorem AD.new {k : ClassId} {z : Int32} (A : Arr Z h a (newA k .double z) .double) (hz : z.toInt = n) : AD Z h a n (fun _ => 0) :=
  ⟨_, A, by rw [sz_new]; exact clamp hz, fun i hi => by rw [← clamp hz] at hi; simp [newA, hi, defaultValue]⟩
end Dbls
section DSteps
variable {p : Program} {l : Launch} {e : Env} {R : Room} {s : State} {m : MethodId} {args : Array Value} {below : List Frame} {meth : Method} {c : Code} {T T' : State} {locs : List Loc} {cells slots : Nat} {P : Option Value → Heap → List Loc → Prop} {C N : Nat} {Ls : Array Slot} {S : List Value} {pc pc' : Nat} {Z : State} {h : Heap} {a : Addr} {n n0 : Nat} {f : Nat → UInt64} {a0 : Array Value}
theorem newd (X : Stand p l e R s m args below meth c T locs cells slots) (hx : p.tables.exec = Jvm.exec) (hZ : Z.Warmed39 s.vm) (w : (Cond.arrayClass .double).before a0 Z = true) (eT : T.heap = h) {z : Int32} (hd : decode c.code pc = .ok (.newarray .double, 2)) (hz : z.toInt = n) {cap : Nat} (hcap : n ≤ cap) (hb : cap * 8 ≤ 536870912) (hc : cells + 1 ≤ R.cells) (hl : slots + cap ≤ R.slots) (hq : pc + 2 = pc')
    (K : ∀ T' h' a, Stand p l e R s m args below meth c T' locs (cells + 1) (slots + cap) → T'.heap = h' → Ext h h' → a = h.size → AD Z h' a n (fun _ => 0) → Gl p e below s P C N T' (mkF m pc' Ls (.ref a :: S))) : Gl p e below s P C N T (mkF m pc Ls (.int z :: S)) := by
  subst hq
  obtain ⟨T', h', k, X', e', E, A, st⟩ := newP X hx hZ (aty := .double) w eT (g := mkF m pc Ls (.int z :: S)) rfl hd rfl (by rw [Int32.lt_iff_toInt_lt, hz, show (0 : Int32).toInt = 0 from rfl]; omega) (cap := cap) (by rw [clamp hz]; exact hcap) hb hc hl
  exact s2 _ st (K T' h' _ X' e' E rfl (AD.new A hz))
theorem ldd (X : Stand p l e R s m args below meth c T locs cells slots) (hx : p.tables.exec = Jvm.exec) (hZ : Z.Warmed39 s.vm) (eT : T.heap = h) (F : AD Z h a n f) {j : Int32} (k : Nat) (hj : j.toInt = k) (hk : k < n) (hd : decode c.code pc = .ok (.daload, 1)) (hq : pc + 1 = pc')
    (K : Gl p e below s P C N T (mkF m pc' Ls (.double (f k) :: S))) : Gl p e below s P C N T (mkF m pc Ls (.int j :: .ref a :: S)) := by
  subst hq
  obtain ⟨cl, A, r1, r2⟩ := F
  exact s1 _ (fun t u => X.daload hx (v := .double (f k)) (by rw [eT]; exact A.1) (State.isArrayOf_alike hZ.alike A.2.1) A.2.2 (inb hj (by omega)) (by rw [clamp hj]; exact r2 k hk) (g := mkF m pc Ls (.int j :: .ref a :: S)) rfl rfl hd t u) K
theorem std (X : Stand p l e R s m args below meth c T locs cells slots) (hx : p.tables.exec = Jvm.exec) (hZ : Z.Warmed39 s.vm) (eT : T.heap = h) (F : AD Z h a n f) {j : Int32} {x : UInt64} (k : Nat) (hj : j.toInt = k) (hk : k < n) (N0 : Fr n0 locs) (ga : n0 ≤ a) (hd : decode c.code pc = .ok (.dastore, 1)) (hq : pc + 1 = pc')
    (K : ∀ T' h' L', Stand p l e R s m args below meth c T' L' cells slots → T'.heap = h' → Wr h h' a k (.double x) → AD Z h' a n (up f k x) → Fr n0 L' → Gl p e below s P C N T' (mkF m pc' Ls S)) : Gl p e below s P C N T (mkF m pc Ls (.double x :: .int j :: .ref a :: S)) := by
  subst hq
  obtain ⟨cl, A, r1, r2⟩ := F
  obtain ⟨T', h', X', e', W, st⟩ := stD X hx hZ eT A (inb hj (by omega)) (g := mkF m pc Ls (.double x :: .int j :: .ref a :: S)) rfl rfl hd
  have N1 := Fr.snoc X' N0 ga
  rw [clamp hj] at W
  exact s2 _ st (K T' h' _ X' e' W (AD.set ⟨cl, A, r1, r2⟩ W hk) N1)
end DSteps
end Jvm.Pilot.@@N@@.W
namespace Jvm.Pilot.@@N@@
open Jvm Jvm.ClassFile Sem Op Lib Jvm.Free Jvm.Stand Jvm.LawKit Jvm.RoadKit Bundle Jvm.Pilot.@@N@@.Jvm.D
def own_ord (ao zb zx zy zf zd zn zp : Addr) : Prop := ao ≠ zb ∧ ao ≠ zx ∧ ao ≠ zy ∧ ao ≠ zf ∧ ao ≠ zd ∧ ao ≠ zn ∧ ao ≠ zp ∧ zb ≠ zx ∧ zb ≠ zy ∧ zb ≠ zf ∧ zb ≠ zd ∧ zb ≠ zn ∧ zb ≠ zp ∧ zx ≠ zy ∧ zx ≠ zf ∧ zx ≠ zd ∧ zx ≠ zn ∧ zx ≠ zp ∧ zy ≠ zf ∧ zy ≠ zd ∧ zy ≠ zn ∧ zy ≠ zp ∧ zf ≠ zd ∧ zf ≠ zn ∧ zf ≠ zp ∧ zd ≠ zn ∧ zd ≠ zp ∧ zn ≠ zp
def own_ge (n : Nat) (ao zb zx zy zf zd zn zp : Addr) : Prop := n ≤ ao ∧ n ≤ zb ∧ n ≤ zx ∧ n ≤ zy ∧ n ≤ zf ∧ n ≤ zd ∧ n ≤ zn ∧ n ≤ zp
def own_nb (zb0 : Addr) (ao zb zx zy zf zd zn zp : Addr) : Prop := zb0 ≠ ao ∧ zb0 ≠ zb ∧ zb0 ≠ zx ∧ zb0 ≠ zy ∧ zb0 ≠ zf ∧ zb0 ≠ zd ∧ zb0 ≠ zn ∧ zb0 ≠ zp
abbrev own_S := (Nat → Int32) × (Nat → Int32) × (Nat → Int32) × (Nat → Int32)
def own_PC (Z : State) (h : Heap) (ao zb zx zy zf zd zn zp : Addr) (S : own_S) : Prop := Exa Z h ao "com/example/stummel/stummel/geometry/PendingCrossings" ∧ Fld Z h ao "com/example/stummel/stummel/geometry/PendingCrossings" "byPlace" "[I" (.ref zb) ∧ Fld Z h ao "com/example/stummel/stummel/geometry/PendingCrossings" "x" "[D" (.ref zx) ∧ Fld Z h ao "com/example/stummel/stummel/geometry/PendingCrossings" "y" "[D" (.ref zy) ∧ Fld Z h ao "com/example/stummel/stummel/geometry/PendingCrossings" "firstDue" "[I" (.ref zf) ∧ Fld Z h ao "com/example/stummel/stummel/geometry/PendingCrossings" "dueAt" "[I" (.ref zd) ∧ Fld Z h ao "com/example/stummel/stummel/geometry/PendingCrossings" "next" "[I" (.ref zn) ∧ Fld Z h ao "com/example/stummel/stummel/geometry/PendingCrossings" "previous" "[I" (.ref zp) ∧ W.AI Z h zb .int 2 (W.up (W.up (fun _ => 0) 0 (0 : Int32)) 1 (1 : Int32)) ∧ W.AD Z h zx 2 (W.up (W.up (fun _ => 0) 0 (FP.l2d (0 : Int64))) 1 (FP.l2d (1 : Int64))) ∧ W.AD Z h zy 2 (W.up (W.up (fun _ => 0) 0 (FP.l2d (0 : Int64))) 1 (FP.l2d (0 : Int64))) ∧ W.AI Z h zf .int 2 S.1 ∧ W.AI Z h zd .int 3 S.2.1 ∧ W.AI Z h zn .int 3 S.2.2.1 ∧ W.AI Z h zp .int 3 S.2.2.2
def own_ix (x : Int32) : Nat := x.toInt.toNat
def own_ok (x : Int32) (n : Nat) : Bool := decide (0 ≤ x.toInt) && decide (x.toInt < n)
theorem own_okE {x : Int32} {n : Nat} (h : own_ok x n = true) : x.toInt = own_ix x ∧ own_ix x < n := by
  simp only [own_ok, Bool.and_eq_true, decide_eq_true_eq] at h
  unfold own_ix; omega
def own_can (k : Nat) (fd du nx pv : Nat → Int32) : own_S :=
  if du k = -1 then (fd, du, nx, pv) else if pv k = -1 then
    (W.up fd (own_ix (du k)) (nx k), W.up du k (-1), nx, if nx k = -1 then pv else W.up pv (own_ix (nx k)) (pv k))
  else (fd, W.up du k (-1), W.up nx (own_ix (pv k)) (nx k), if W.up nx (own_ix (pv k)) (nx k) k = -1 then pv else W.up pv (own_ix (W.up nx (own_ix (pv k)) (nx k) k)) (pv k))
def own_canV (k : Nat) (du nx pv : Nat → Int32) : Bool := decide (du k = -1) || (own_ok (du k) 2 && (if pv k = -1 then (decide (nx k = -1) || own_ok (nx k) 3) else (own_ok (pv k) 3 && (decide (W.up nx (own_ix (pv k)) (nx k) k = -1) || own_ok (W.up nx (own_ix (pv k)) (nx k) k) 3))))
theorem own_canA {k : Nat} {du nx pv : Nat → Int32} (h : own_canV k du nx pv = true) (q : ¬ du k = -1) : own_ok (du k) 2 = true := by
  simp only [own_canV, Bool.or_eq_true, Bool.and_eq_true, decide_eq_true_eq] at h
  exact (h.resolve_left q).1
theorem own_canB {k : Nat} {du nx pv : Nat → Int32} (h : own_canV k du nx pv = true) (q : ¬ du k = -1) (r : pv k = -1) : nx k = -1 ∨ own_ok (nx k) 3 = true := by
  simp only [own_canV, Bool.or_eq_true, Bool.and_eq_true, decide_eq_true_eq] at h
  have := (h.resolve_left q).2
  rw [if_pos r] at this
  simpa only [Bool.or_eq_true, decide_eq_true_eq] using this
theorem own_canC {k : Nat} {du nx pv : Nat → Int32} (h : own_canV k du nx pv = true) (q : ¬ du k = -1) (r : ¬ pv k = -1) : own_ok (pv k) 3 = true ∧ (W.up nx (own_ix (pv k)) (nx k) k = -1 ∨ own_ok (W.up nx (own_ix (pv k)) (nx k) k) 3 = true) := by
  simp only [own_canV, Bool.or_eq_true, Bool.and_eq_true, decide_eq_true_eq] at h
  have := (h.resolve_left q).2
  rw [if_neg r] at this
  simpa only [Bool.or_eq_true, Bool.and_eq_true, decide_eq_true_eq] using this
def own_tk (p : Nat) (S : own_S) : own_S := if S.1 p = -1 then S else own_can (own_ix (S.1 p)) S.1 S.2.1 S.2.2.1 S.2.2.2
def own_tkV (p : Nat) (S : own_S) : Bool := decide (S.1 p = -1) || (own_ok (S.1 p) 3 && own_canV (own_ix (S.1 p)) S.2.1 S.2.2.1 S.2.2.2)
theorem own_tkA {p : Nat} {S : own_S} (h : own_tkV p S = true) (q : ¬ S.1 p = -1) : own_ok (S.1 p) 3 = true ∧ own_canV (own_ix (S.1 p)) S.2.1 S.2.2.1 S.2.2.2 = true := by
  simp only [own_tkV, Bool.or_eq_true, Bool.and_eq_true, decide_eq_true_eq] at h
  exact h.resolve_left q
def own_add (p : Nat) (xp x : Int32) (k : Nat) (S : own_S) : own_S := (W.up S.1 p x, W.up S.2.1 k xp, W.up S.2.2.1 k (S.1 p), if S.1 p = -1 then W.up S.2.2.2 k (-1) else W.up (W.up S.2.2.2 k (-1)) (own_ix (S.1 p)) x)
def own_addV (p k : Nat) (S : own_S) : Bool := decide (S.2.1 k = -1) && (decide (S.1 p = -1) || own_ok (S.1 p) 3)
theorem own_addA {p k : Nat} {S : own_S} (h : own_addV p k S = true) : S.2.1 k = -1 ∧ (S.1 p = -1 ∨ own_ok (S.1 p) 3 = true) := by
  simpa only [own_addV, Bool.or_eq_true, Bool.and_eq_true, decide_eq_true_eq] using h
def own_aif (x cc : Int32) (k : Nat) (S : own_S) : own_S := if cc = 0 then S else if cc = 1 then own_add 0 0 x k S else own_add 1 1 x k S
def own_aifV (cc : Int32) (k : Nat) (S : own_S) : Bool := if cc = 0 then true else if cc = 1 then own_addV 0 k S else own_addV 1 k S
theorem own_aV1 {k : Nat} {S : own_S} (h : own_aifV 1 k S = true) : own_addV 0 k S = true := by unfold own_aifV at h; rw [if_neg (by decide), if_pos rfl] at h; exact h
theorem own_aV2 {k : Nat} {S : own_S} (h : own_aifV 2 k S = true) : own_addV 1 k S = true := by unfold own_aifV at h; rw [if_neg (by decide), if_neg (by decide)] at h; exact h
theorem own_a0 (x : Int32) (k : Nat) (S : own_S) : own_aif x 0 k S = S := by unfold own_aif; rw [if_pos rfl]
theorem own_a1 (x : Int32) (k : Nat) (S : own_S) : own_aif x 1 k S = own_add 0 0 x k S := by unfold own_aif; rw [if_neg (by decide), if_pos rfl]
theorem own_a2 (x : Int32) (k : Nat) (S : own_S) : own_aif x 2 k S = own_add 1 1 x k S := by unfold own_aif; rw [if_neg (by decide), if_neg (by decide)]
theorem own_p1 {a b : Prop} [Decidable a] [Decidable b] (h : a) (k : ¬ b) : (decide a && !decide b) = true := by rw [decide_eq_true h, decide_eq_false k]; rfl
theorem own_p2 {a b : Prop} [Decidable a] [Decidable b] (h : ¬ a) : ¬ (decide a && !decide b) = true := by rw [decide_eq_false h, Bool.false_and]; exact Bool.false_ne_true
theorem own_p3 {a b : Prop} [Decidable a] [Decidable b] (k : b) : ¬ (decide a && !decide b) = true := by rw [decide_eq_true k, Bool.not_true, Bool.and_false]; exact Bool.false_ne_true
theorem own_p5 {a : Prop} [Decidable a] (h : ¬ a) : ¬ decide a = true := by rw [decide_eq_false h]; exact Bool.false_ne_true
def own_dr (p : Nat) (S : own_S) : own_S := own_tk p (own_tk p (own_tk p (own_tk p S)))
def own_drV (p : Nat) (S : own_S) (fe : Nat → Int32) : Bool := own_tkV p S && (decide (S.1 p = fe 0) && (own_tkV p (own_tk p S) && (decide ((own_tk p S).1 p = fe 1) && (own_tkV p (own_tk p (own_tk p S)) && (decide ((own_tk p (own_tk p S)).1 p = fe 2) && (own_tkV p (own_tk p (own_tk p (own_tk p S))) && decide ((own_tk p (own_tk p (own_tk p S))).1 p = -1)))))))
abbrev own_T := (Nat → Int32) × Int32
def own_b (P : Bool) (v : Int32) (E : own_T) : own_T := if P then (W.up E.1 (own_ix E.2) v, E.2 + 1) else E
def own_e0 : own_T := (W.up (W.up (W.up (fun _ => 0) 0 (-1)) 1 (-1)) 2 (-1), 0)
def own_e1 (q s r : Int32) : own_T := own_b (decide (r = q)) s own_e0
def own_e2 (q c2 s r : Int32) : own_T := own_b (decide (c2 = q) && !decide (s = 2)) 2 (own_e1 q s r)
def own_e3 (q c1 c2 s r : Int32) : own_T := own_b (decide (c1 = q) && !decide (s = 1)) 1 (own_e2 q c2 s r)
def own_e4 (q c0 c1 c2 s r : Int32) : own_T := own_b (decide (c0 = q) && !decide (s = 0)) 0 (own_e3 q c1 c2 s r)
theorem own_bT {P : Bool} {v : Int32} {E : own_T} (h : P = true) : own_b P v E = (W.up E.1 (own_ix E.2) v, E.2 + 1) := by unfold own_b; rw [if_pos h]
theorem own_bF {P : Bool} {v : Int32} {E : own_T} (h : ¬ P = true) : own_b P v E = E := by unfold own_b; rw [if_neg h]
theorem own_fin : ∀ x : Fin 3, (Int32.ofNat x.1).toInt = (x.1 : Int) := by decide +kernel
theorem own_012 : ∀ x : Fin 3, Int32.ofNat x.1 = 0 ∨ Int32.ofNat x.1 = 1 ∨ Int32.ofNat x.1 = 2 := by decide +kernel
theorem own_f3 {x y : Int32} (h : (x &&& (2147483647 : Int32)) % (3 : Int32) = y) : ∃ k : Fin 3, y = Int32.ofNat k.1 := by
  have h0 : 0 ≤ (x &&& (2147483647 : Int32)).toInt := (c_andS _ _).2.2 (by decide)
  have h1 := (c_irem (x &&& (2147483647 : Int32)) 3 3 rfl).1 h0
  rw [h] at h1
  refine ⟨⟨y.toInt.toNat, by omega⟩, ?_⟩
  rw [← Int32.toInt_inj, Int32.toInt_ofNat_small (by show y.toInt.toNat < _; omega)]
  show y.toInt = (y.toInt.toNat : Int); omega
def own_s0 : own_S := (fun _ => -1, fun _ => -1, fun _ => 0, fun _ => 0)
def own_s1 (c0 : Fin 3) : own_S := own_aif 0 (Int32.ofNat c0.1) 0 own_s0
def own_s2 (c0 c1 : Fin 3) : own_S := own_aif 1 (Int32.ofNat c1.1) 1 (own_s1 c0)
def own_s3 (c0 c1 c2 : Fin 3) : own_S := own_aif 2 (Int32.ofNat c2.1) 2 (own_s2 c0 c1)
def own_s4 (c0 c1 c2 s : Fin 3) : own_S := own_can s.1 (own_s3 c0 c1 c2).1 (own_s3 c0 c1 c2).2.1 (own_s3 c0 c1 c2).2.2.1 (own_s3 c0 c1 c2).2.2.2
def own_s5 (c0 c1 c2 s r : Fin 3) : own_S := own_aif (Int32.ofNat s.1) (Int32.ofNat r.1) s.1 (own_s4 c0 c1 c2 s)
def own_E (q : Int32) (c0 c1 c2 s r : Fin 3) : own_T := own_e4 q (Int32.ofNat c0.1) (Int32.ofNat c1.1) (Int32.ofNat c2.1) (Int32.ofNat s.1) (Int32.ofNat r.1)
theorem own_v1 : ∀ c0 : Fin 3, own_aifV (Int32.ofNat c0.1) 0 own_s0 = true := by decide +kernel
theorem own_v2 : ∀ c0 c1 : Fin 3, own_aifV (Int32.ofNat c1.1) 1 (own_s1 c0) = true := by decide +kernel
theorem own_v3 : ∀ c0 c1 c2 : Fin 3, own_aifV (Int32.ofNat c2.1) 2 (own_s2 c0 c1) = true := by decide +kernel
theorem own_v4 : ∀ c0 c1 c2 s : Fin 3, own_canV s.1 (own_s3 c0 c1 c2).2.1 (own_s3 c0 c1 c2).2.2.1 (own_s3 c0 c1 c2).2.2.2 = true := by decide +kernel
theorem own_v5 : ∀ c0 c1 c2 s r : Fin 3, own_aifV (Int32.ofNat r.1) s.1 (own_s4 c0 c1 c2 s) = true := by decide +kernel
theorem own_v6 : ∀ c0 c1 c2 s r : Fin 3, own_drV 0 (own_s5 c0 c1 c2 s r) (own_E 1 c0 c1 c2 s r).1 = true := by decide +kernel
theorem own_v7 : ∀ c0 c1 c2 s r : Fin 3, own_drV 1 (own_dr 0 (own_s5 c0 c1 c2 s r)) (own_E 2 c0 c1 c2 s r).1 = true := by decide +kernel
theorem own_w1_1 : ∀ s r : Fin 3, own_ok (own_e0).2 3 = true := by decide +kernel
theorem own_w2_1 : ∀ s r : Fin 3, own_ok (own_e1 1 (Int32.ofNat s.1) (Int32.ofNat r.1)).2 3 = true := by decide +kernel
theorem own_w3_1 : ∀ c2 s r : Fin 3, own_ok (own_e2 1 (Int32.ofNat c2.1) (Int32.ofNat s.1) (Int32.ofNat r.1)).2 3 = true := by decide +kernel
theorem own_w4_1 : ∀ c0 c1 c2 s r : Fin 3, ¬ Int32.ofNat s.1 = 0 → own_ok (own_e3 1 (Int32.ofNat c1.1) (Int32.ofNat c2.1) (Int32.ofNat s.1) (Int32.ofNat r.1)).2 3 = true := by decide +kernel
theorem own_w1_2 : ∀ s r : Fin 3, own_ok (own_e0).2 3 = true := by decide +kernel
theorem own_w2_2 : ∀ s r : Fin 3, own_ok (own_e1 2 (Int32.ofNat s.1) (Int32.ofNat r.1)).2 3 = true := by decide +kernel
theorem own_w3_2 : ∀ c2 s r : Fin 3, own_ok (own_e2 2 (Int32.ofNat c2.1) (Int32.ofNat s.1) (Int32.ofNat r.1)).2 3 = true := by decide +kernel
theorem own_w4_2 : ∀ c0 c1 c2 s r : Fin 3, ¬ Int32.ofNat s.1 = 0 → own_ok (own_e3 2 (Int32.ofNat c1.1) (Int32.ofNat c2.1) (Int32.ofNat s.1) (Int32.ofNat r.1)).2 3 = true := by decide +kernel
theorem pn_0 : plainName "com/example/stummel/stummel/geometry/PendingCrossingsCancelPinLaw" = true := by first | (simp [plainName, overriddenIn]; done) | decide +kernel
theorem ef_1a (m : MethodId) (x0 : Int32) (x1 : Int32) (x2 : Int32) (x3 : Int32) (x4 : Int32) (x5 : Int32) : entryFrame m #[(.int x0), (.int x1), (.int x2), (.int x3), (.int x4), (.int x5)] 8 = mkF m 0 #[.val (.int x0), .val (.int x1), .val (.int x2), .val (.int x3), .val (.int x4), .val (.int x5), .unset, .unset] [] := by first | (simp [entryFrame, mkF, argsToLocals, Value.category]; done) | rfl
theorem d1_0 : decode method_4_code 0 = .ok (.iconst 3, 1) := by decide +kernel
theorem d1_1 : decode method_4_code 1 = .ok (.newarray .int, 2) := by decide +kernel
theorem d1_3 : decode method_4_code 3 = .ok (.dup, 1) := by decide +kernel
theorem d1_4 : decode method_4_code 4 = .ok (.iconst 0, 1) := by decide +kernel
theorem d1_5 : decode method_4_code 5 = .ok (.iconst (-1), 1) := by decide +kernel
theorem d1_6 : decode method_4_code 6 = .ok (.iastore, 1) := by decide +kernel
theorem d1_7 : decode method_4_code 7 = .ok (.dup, 1) := by decide +kernel
theorem d1_8 : decode method_4_code 8 = .ok (.iconst 1, 1) := by decide +kernel
theorem d1_9 : decode method_4_code 9 = .ok (.iconst (-1), 1) := by decide +kernel
theorem d1_10 : decode method_4_code 10 = .ok (.iastore, 1) := by decide +kernel
theorem d1_11 : decode method_4_code 11 = .ok (.dup, 1) := by decide +kernel
theorem d1_12 : decode method_4_code 12 = .ok (.iconst 2, 1) := by decide +kernel
theorem d1_13 : decode method_4_code 13 = .ok (.iconst (-1), 1) := by decide +kernel
theorem d1_14 : decode method_4_code 14 = .ok (.iastore, 1) := by decide +kernel
theorem d1_15 : decode method_4_code 15 = .ok (.astore 6, 2) := by decide +kernel
theorem d1_17 : decode method_4_code 17 = .ok (.iconst 0, 1) := by decide +kernel
theorem d1_18 : decode method_4_code 18 = .ok (.istore 7, 2) := by decide +kernel
theorem d1_103 : decode method_4_code 103 = .ok (.aload 6, 2) := by decide +kernel
theorem d1_105 : decode method_4_code 105 = .ok (.areturn, 1) := by decide +kernel
theorem d1_82 : decode method_4_code 82 = .ok (.iload_n 1, 1) := by decide +kernel
theorem d1_83 : decode method_4_code 83 = .ok (.iload_n 0, 1) := by decide +kernel
theorem d1_84 : decode method_4_code 84 = .ok (.iconst 1, 1) := by decide +kernel
theorem d1_85 : decode method_4_code 85 = .ok (.iadd, 1) := by decide +kernel
theorem d1_86 : decode method_4_code 86 = .ok (.if_icmp .ne 17, 3) := by decide +kernel
theorem d1_89 : decode method_4_code 89 = .ok (.iload 4, 2) := by decide +kernel
theorem d1_91 : decode method_4_code 91 = .ok (.ifCond .eq 12, 3) := by decide +kernel
theorem d1_94 : decode method_4_code 94 = .ok (.aload 6, 2) := by decide +kernel
theorem d1_96 : decode method_4_code 96 = .ok (.iload 7, 2) := by decide +kernel
theorem d1_98 : decode method_4_code 98 = .ok (.iconst 0, 1) := by decide +kernel
theorem d1_99 : decode method_4_code 99 = .ok (.iastore, 1) := by decide +kernel
theorem d1_100 : decode method_4_code 100 = .ok (.iinc 7 1, 3) := by decide +kernel
theorem d1_60 : decode method_4_code 60 = .ok (.iload_n 2, 1) := by decide +kernel
theorem d1_61 : decode method_4_code 61 = .ok (.iload_n 0, 1) := by decide +kernel
theorem d1_62 : decode method_4_code 62 = .ok (.iconst 1, 1) := by decide +kernel
theorem d1_63 : decode method_4_code 63 = .ok (.iadd, 1) := by decide +kernel
theorem d1_64 : decode method_4_code 64 = .ok (.if_icmp .ne 18, 3) := by decide +kernel
theorem d1_67 : decode method_4_code 67 = .ok (.iload 4, 2) := by decide +kernel
theorem d1_69 : decode method_4_code 69 = .ok (.iconst 1, 1) := by decide +kernel
theorem d1_70 : decode method_4_code 70 = .ok (.if_icmp .eq 12, 3) := by decide +kernel
theorem d1_73 : decode method_4_code 73 = .ok (.aload 6, 2) := by decide +kernel
theorem d1_75 : decode method_4_code 75 = .ok (.iload 7, 2) := by decide +kernel
theorem d1_77 : decode method_4_code 77 = .ok (.iconst 1, 1) := by decide +kernel
theorem d1_78 : decode method_4_code 78 = .ok (.iastore, 1) := by decide +kernel
theorem d1_79 : decode method_4_code 79 = .ok (.iinc 7 1, 3) := by decide +kernel
theorem d1_38 : decode method_4_code 38 = .ok (.iload_n 3, 1) := by decide +kernel
theorem d1_39 : decode method_4_code 39 = .ok (.iload_n 0, 1) := by decide +kernel
theorem d1_40 : decode method_4_code 40 = .ok (.iconst 1, 1) := by decide +kernel
theorem d1_41 : decode method_4_code 41 = .ok (.iadd, 1) := by decide +kernel
theorem d1_42 : decode method_4_code 42 = .ok (.if_icmp .ne 18, 3) := by decide +kernel
theorem d1_45 : decode method_4_code 45 = .ok (.iload 4, 2) := by decide +kernel
theorem d1_47 : decode method_4_code 47 = .ok (.iconst 2, 1) := by decide +kernel
theorem d1_48 : decode method_4_code 48 = .ok (.if_icmp .eq 12, 3) := by decide +kernel
theorem d1_51 : decode method_4_code 51 = .ok (.aload 6, 2) := by decide +kernel
theorem d1_53 : decode method_4_code 53 = .ok (.iload 7, 2) := by decide +kernel
theorem d1_55 : decode method_4_code 55 = .ok (.iconst 2, 1) := by decide +kernel
theorem d1_56 : decode method_4_code 56 = .ok (.iastore, 1) := by decide +kernel
theorem d1_57 : decode method_4_code 57 = .ok (.iinc 7 1, 3) := by decide +kernel
theorem d1_20 : decode method_4_code 20 = .ok (.iload 5, 2) := by decide +kernel
theorem d1_22 : decode method_4_code 22 = .ok (.iload_n 0, 1) := by decide +kernel
theorem d1_23 : decode method_4_code 23 = .ok (.iconst 1, 1) := by decide +kernel
theorem d1_24 : decode method_4_code 24 = .ok (.iadd, 1) := by decide +kernel
theorem d1_25 : decode method_4_code 25 = .ok (.if_icmp .ne 13, 3) := by decide +kernel
theorem d1_28 : decode method_4_code 28 = .ok (.aload 6, 2) := by decide +kernel
theorem d1_30 : decode method_4_code 30 = .ok (.iload 7, 2) := by decide +kernel
theorem d1_32 : decode method_4_code 32 = .ok (.iload 4, 2) := by decide +kernel
theorem d1_34 : decode method_4_code 34 = .ok (.iastore, 1) := by decide +kernel
theorem d1_35 : decode method_4_code 35 = .ok (.iinc 7 1, 3) := by decide +kernel
def Q1a (Z : State) (c0 : Fin 3) (c1 : Fin 3) (c2 : Fin 3) (cs : Fin 3) (cr : Fin 3) (h0 : Heap) (n0 : Nat) (v : Option Value) (h : Heap) (L : List Loc) : Prop := ∃ b : Addr, v = some (.ref b) ∧ Fr n0 L ∧ Keep h0 h [] ∧ h0.size ≤ b ∧ W.AI Z h b .int 3 (own_E 1 c0 c1 c2 cs cr).1
set_option maxRecDepth 65536 in
set_option maxHeartbeats 40000000 in
theorem rm1a (l : Launch) (Z : State) (a0 : Array Value) (hw : ∀ d ∈ tables_1, d.before a0 Z = true) (ws : List Jvm.Cond) (c0 : Fin 3) (c1 : Fin 3) (c2 : Fin 3) (cs : Fin 3) (cr : Fin 3) (h0 : Heap) (n0 : Nat) (Z0 : n0 ≤ h0.size) :
    MetFree l (⟨"com/example/stummel/stummel/geometry/PendingCrossingsCancelPinLaw", "expected", "(IIIIII)[I"⟩ : MethodName) (head1 (Jvm.Cond.code (⟨"com/example/stummel/stummel/geometry/PendingCrossingsCancelPinLaw", "expected", "(IIIIII)[I"⟩ : MethodName) method_4_code 8 (some (.array .int)) :: ws) ({ frames := 0, cells := 1, slots := 3, locals := 0 } : Room)) (fun a U => a = #[(.int (0 : Int32)), (.int (Int32.ofNat c0.1)), (.int (Int32.ofNat c1.1)), (.int (Int32.ofNat c2.1)), (.int (Int32.ofNat cs.1)), (.int (Int32.ofNat cr.1))] ∧ Z.Warmed39 U.vm ∧ U.heap = h0) (fun _ _ _ _ _ => True) (fun _ U o U' => ∃ v L, o = .returned v ∧ Q1a Z c0 c1 c2 cs cr h0 n0 v U'.heap L ∧ FrameEnd U o U' L ({ frames := 0, cells := 1, slots := 3, locals := 0 } : Room).cells ({ frames := 0, cells := 1, slots := 3, locals := 0 } : Room).slots) := by
  refine MetFree.of_bodySF (plainFor_of_name pn_0) hisR ?_
  intro p e s m args below meth c s₁ Bd hml0 hP hK
  obtain ⟨rfl, hZ, hh⟩ := hP
  have hx := Bd.exec
  have hby := Bd.bytes
  have hml : c.maxLocals = 8 := hml0
  have hown : s.vm.findClass "com/example/stummel/stummel/geometry/PendingCrossingsCancelPinLaw" = some m.cls := findClass_of_methodNamed Bd.named
  have hnm := (name_of_methodNamed Bd.named Bd.method).1
  have hlk : meth.locks = false := BodyLoose.notSynchronized Bd
  have X0 : Stand p l e ({ frames := 0, cells := 1, slots := 3, locals := 0 } : Room) s m #[(.int (0 : Int32)), (.int (Int32.ofNat c0.1)), (.int (Int32.ofNat c1.1)), (.int (Int32.ofNat c2.1)), (.int (Int32.ofNat cs.1)), (.int (Int32.ofNat cr.1))] below meth c s₁ [] 0 0 := Stand.of_body Bd
  have e0 : s₁.heap = h0 := by rw [← hh, Bd.state]; rfl
  have N0 := Fr.nil n0
  show W.Gl p e below s (Q1a Z c0 c1 c2 cs cr h0 n0) ({ frames := 0, cells := 1, slots := 3, locals := 0 } : Room).cells ({ frames := 0, cells := 1, slots := 3, locals := 0 } : Room).slots s₁ (entryFrame m #[(.int (0 : Int32)), (.int (Int32.ofNat c0.1)), (.int (Int32.ofNat c1.1)), (.int (Int32.ofNat c2.1)), (.int (Int32.ofNat cs.1)), (.int (Int32.ofNat cr.1))] 8)
  refine W.cast (ef_1a m (0 : Int32) (Int32.ofNat c0.1) (Int32.ofNat c1.1) (Int32.ofNat c2.1) (Int32.ofNat cs.1) (Int32.ofNat cr.1)) ?_
  have K0 : Keep h0 h0 [] := Keep.refl h0 []
  refine W.s1 (mkF m 1 #[.val (.int (0 : Int32)), .val (.int (Int32.ofNat c0.1)), .val (.int (Int32.ofNat c1.1)), .val (.int (Int32.ofNat c2.1)), .val (.int (Int32.ofNat cs.1)), .val (.int (Int32.ofNat cr.1)), .unset, .unset] [(.int (3 : Int32))]) (fun _ kx_ => XS.iconst X0.here hx rfl (hb hby d1_0) kx_) ?_
  refine W.newi X0 hx hZ (ty := .int) (aty := .int) (hw _ (List.mem_of_getElem? (i := 5) rfl)) rfl rfl e0 (hb hby d1_1) (n := 3) rfl (cap := 3) (Nat.le_refl _) (by decide) (by decide) (by decide) (pc' := 3) rfl (fun T101 h101 b101 X101 e101 E101 g101 A101 => ?_)
  have ge101 : n0 ≤ b101 := Nat.le_trans Z0 (Nat.le_of_eq g101.symm)
  have sz101 : h0.size ≤ b101 := Nat.le_trans K0.1 (Nat.le_of_eq g101.symm)
  have Z101 : n0 ≤ h101.size := Nat.le_trans Z0 E101.1
  have K101 : Keep h0 h101 [] := K0.ext E101
  refine W.s1 (mkF m 4 #[.val (.int (0 : Int32)), .val (.int (Int32.ofNat c0.1)), .val (.int (Int32.ofNat c1.1)), .val (.int (Int32.ofNat c2.1)), .val (.int (Int32.ofNat cs.1)), .val (.int (Int32.ofNat cr.1)), .unset, .unset] [(.ref b101), (.ref b101)]) (fun _ kx_ => XS.dup X101.here hx rfl (hb hby d1_3) rfl rfl kx_) ?_
  refine W.s1 (mkF m 5 #[.val (.int (0 : Int32)), .val (.int (Int32.ofNat c0.1)), .val (.int (Int32.ofNat c1.1)), .val (.int (Int32.ofNat c2.1)), .val (.int (Int32.ofNat cs.1)), .val (.int (Int32.ofNat cr.1)), .unset, .unset] [(.int (0 : Int32)), (.ref b101), (.ref b101)]) (fun _ kx_ => XS.iconst X101.here hx rfl (hb hby d1_4) kx_) ?_
  refine W.s1 (mkF m 6 #[.val (.int (0 : Int32)), .val (.int (Int32.ofNat c0.1)), .val (.int (Int32.ofNat c1.1)), .val (.int (Int32.ofNat c2.1)), .val (.int (Int32.ofNat cs.1)), .val (.int (Int32.ofNat cr.1)), .unset, .unset] [(.int (-1 : Int32)), (.int (0 : Int32)), (.ref b101), (.ref b101)]) (fun _ kx_ => XS.iconst X101.here hx rfl (hb hby d1_5) kx_) ?_
  refine W.sti X101 hx hZ e101 A101 0 rfl (by first | decide | simp) N0 ge101 (hb hby d1_6) (pc' := 7) rfl (fun T102 h102 L102 X102 e102 W102 fw102 N102 => ?_)
  have Z102 : n0 ≤ h102.size := Nat.le_trans Z101 (Keep.of_wr W102).1
  have K102 : Keep h0 h102 [] := K101.wr W102 (Or.inr sz101)
  refine W.s1 (mkF m 8 #[.val (.int (0 : Int32)), .val (.int (Int32.ofNat c0.1)), .val (.int (Int32.ofNat c1.1)), .val (.int (Int32.ofNat c2.1)), .val (.int (Int32.ofNat cs.1)), .val (.int (Int32.ofNat cr.1)), .unset, .unset] [(.ref b101), (.ref b101)]) (fun _ kx_ => XS.dup X102.here hx rfl (hb hby d1_7) rfl rfl kx_) ?_
  refine W.s1 (mkF m 9 #[.val (.int (0 : Int32)), .val (.int (Int32.ofNat c0.1)), .val (.int (Int32.ofNat c1.1)), .val (.int (Int32.ofNat c2.1)), .val (.int (Int32.ofNat cs.1)), .val (.int (Int32.ofNat cr.1)), .unset, .unset] [(.int (1 : Int32)), (.ref b101), (.ref b101)]) (fun _ kx_ => XS.iconst X102.here hx rfl (hb hby d1_8) kx_) ?_
  refine W.s1 (mkF m 10 #[.val (.int (0 : Int32)), .val (.int (Int32.ofNat c0.1)), .val (.int (Int32.ofNat c1.1)), .val (.int (Int32.ofNat c2.1)), .val (.int (Int32.ofNat cs.1)), .val (.int (Int32.ofNat cr.1)), .unset, .unset] [(.int (-1 : Int32)), (.int (1 : Int32)), (.ref b101), (.ref b101)]) (fun _ kx_ => XS.iconst X102.here hx rfl (hb hby d1_9) kx_) ?_
  refine W.sti X102 hx hZ e102 fw102 1 rfl (by first | decide | simp) N102 ge101 (hb hby d1_10) (pc' := 11) rfl (fun T103 h103 L103 X103 e103 W103 fw103 N103 => ?_)
  have Z103 : n0 ≤ h103.size := Nat.le_trans Z102 (Keep.of_wr W103).1
  have K103 : Keep h0 h103 [] := K102.wr W103 (Or.inr sz101)
  refine W.s1 (mkF m 12 #[.val (.int (0 : Int32)), .val (.int (Int32.ofNat c0.1)), .val (.int (Int32.ofNat c1.1)), .val (.int (Int32.ofNat c2.1)), .val (.int (Int32.ofNat cs.1)), .val (.int (Int32.ofNat cr.1)), .unset, .unset] [(.ref b101), (.ref b101)]) (fun _ kx_ => XS.dup X103.here hx rfl (hb hby d1_11) rfl rfl kx_) ?_
  refine W.s1 (mkF m 13 #[.val (.int (0 : Int32)), .val (.int (Int32.ofNat c0.1)), .val (.int (Int32.ofNat c1.1)), .val (.int (Int32.ofNat c2.1)), .val (.int (Int32.ofNat cs.1)), .val (.int (Int32.ofNat cr.1)), .unset, .unset] [(.int (2 : Int32)), (.ref b101), (.ref b101)]) (fun _ kx_ => XS.iconst X103.here hx rfl (hb hby d1_12) kx_) ?_
  refine W.s1 (mkF m 14 #[.val (.int (0 : Int32)), .val (.int (Int32.ofNat c0.1)), .val (.int (Int32.ofNat c1.1)), .val (.int (Int32.ofNat c2.1)), .val (.int (Int32.ofNat cs.1)), .val (.int (Int32.ofNat cr.1)), .unset, .unset] [(.int (-1 : Int32)), (.int (2 : Int32)), (.ref b101), (.ref b101)]) (fun _ kx_ => XS.iconst X103.here hx rfl (hb hby d1_13) kx_) ?_
  refine W.sti X103 hx hZ e103 fw103 2 rfl (by first | decide | simp) N103 ge101 (hb hby d1_14) (pc' := 15) rfl (fun T104 h104 L104 X104 e104 W104 fw104 N104 => ?_)
  have Z104 : n0 ≤ h104.size := Nat.le_trans Z103 (Keep.of_wr W104).1
  have K104 : Keep h0 h104 [] := K103.wr W104 (Or.inr sz101)
  refine W.s1 (mkF m 17 #[.val (.int (0 : Int32)), .val (.int (Int32.ofNat c0.1)), .val (.int (Int32.ofNat c1.1)), .val (.int (Int32.ofNat c2.1)), .val (.int (Int32.ofNat cs.1)), .val (.int (Int32.ofNat cr.1)), .val (.ref b101), .unset] []) (fun _ kx_ => XS.astore X104.here hx rfl (hb hby d1_15) rfl rfl (l' := #[.val (.int (0 : Int32)), .val (.int (Int32.ofNat c0.1)), .val (.int (Int32.ofNat c1.1)), .val (.int (Int32.ofNat c2.1)), .val (.int (Int32.ofNat cs.1)), .val (.int (Int32.ofNat cr.1)), .val (.ref b101), .unset]) rfl kx_) ?_
  refine W.s1 (mkF m 18 #[.val (.int (0 : Int32)), .val (.int (Int32.ofNat c0.1)), .val (.int (Int32.ofNat c1.1)), .val (.int (Int32.ofNat c2.1)), .val (.int (Int32.ofNat cs.1)), .val (.int (Int32.ofNat cr.1)), .val (.ref b101), .unset] [(.int (0 : Int32))]) (fun _ kx_ => XS.iconst X104.here hx rfl (hb hby d1_17) kx_) ?_
  refine W.s1 (mkF m 20 #[.val (.int (0 : Int32)), .val (.int (Int32.ofNat c0.1)), .val (.int (Int32.ofNat c1.1)), .val (.int (Int32.ofNat c2.1)), .val (.int (Int32.ofNat cs.1)), .val (.int (Int32.ofNat cr.1)), .val (.ref b101), .val (.int (0 : Int32))] []) (fun _ kx_ => XS.istore X104.here hx rfl (hb hby d1_18) rfl (l' := #[.val (.int (0 : Int32)), .val (.int (Int32.ofNat c0.1)), .val (.int (Int32.ofNat c1.1)), .val (.int (Int32.ofNat c2.1)), .val (.int (Int32.ofNat cs.1)), .val (.int (Int32.ofNat cr.1)), .val (.ref b101), .val (.int (0 : Int32))]) rfl kx_) ?_
  have J103 : ∀ (T : State) (h : Heap) (Lc : List Loc) (E : own_T), E = own_e4 1 (Int32.ofNat c0.1) (Int32.ofNat c1.1) (Int32.ofNat c2.1) (Int32.ofNat cs.1) (Int32.ofNat cr.1) → Stand p l e ({ frames := 0, cells := 1, slots := 3, locals := 0 } : Room) s m #[(.int (0 : Int32)), (.int (Int32.ofNat c0.1)), (.int (Int32.ofNat c1.1)), (.int (Int32.ofNat c2.1)), (.int (Int32.ofNat cs.1)), (.int (Int32.ofNat cr.1))] below meth c T Lc 1 3 → T.heap = h → Fr n0 Lc → n0 ≤ h.size → Keep h0 h [] → W.AI Z h b101 .int 3 E.1 → W.Gl p e below s (Q1a Z c0 c1 c2 cs cr h0 n0) ({ frames := 0, cells := 1, slots := 3, locals := 0 } : Room).cells ({ frames := 0, cells := 1, slots := 3, locals := 0 } : Room).slots T (mkF m 103 #[.val (.int (0 : Int32)), .val (.int (Int32.ofNat c0.1)), .val (.int (Int32.ofNat c1.1)), .val (.int (Int32.ofNat c2.1)), .val (.int (Int32.ofNat cs.1)), .val (.int (Int32.ofNat cr.1)), .val (.ref b101), .val (.int E.2)] []) := by
    intro T h Lc E hE X e1 N Zh K Ab
    refine W.s1 (mkF m 105 #[.val (.int (0 : Int32)), .val (.int (Int32.ofNat c0.1)), .val (.int (Int32.ofNat c1.1)), .val (.int (Int32.ofNat c2.1)), .val (.int (Int32.ofNat cs.1)), .val (.int (Int32.ofNat cr.1)), .val (.ref b101), .val (.int E.2)] [(.ref b101)]) (fun _ kx_ => XS.aload X.here hx rfl (hb hby d1_103) rfl rfl kx_) ?_
    exact W.retA X hx hlk Bd.returns rfl rfl rfl (hb hby d1_105) (by show Q1a Z c0 c1 c2 cs cr h0 n0 _ T.heap _; rw [e1]; exact ⟨_, rfl, N, K, sz101, by rw [hE] at Ab; exact Ab⟩) (by decide) (by decide)
  have J82 : ∀ (T : State) (h : Heap) (Lc : List Loc) (E : own_T), E = own_e3 1 (Int32.ofNat c1.1) (Int32.ofNat c2.1) (Int32.ofNat cs.1) (Int32.ofNat cr.1) → Stand p l e ({ frames := 0, cells := 1, slots := 3, locals := 0 } : Room) s m #[(.int (0 : Int32)), (.int (Int32.ofNat c0.1)), (.int (Int32.ofNat c1.1)), (.int (Int32.ofNat c2.1)), (.int (Int32.ofNat cs.1)), (.int (Int32.ofNat cr.1))] below meth c T Lc 1 3 → T.heap = h → Fr n0 Lc → n0 ≤ h.size → Keep h0 h [] → W.AI Z h b101 .int 3 E.1 → W.Gl p e below s (Q1a Z c0 c1 c2 cs cr h0 n0) ({ frames := 0, cells := 1, slots := 3, locals := 0 } : Room).cells ({ frames := 0, cells := 1, slots := 3, locals := 0 } : Room).slots T (mkF m 82 #[.val (.int (0 : Int32)), .val (.int (Int32.ofNat c0.1)), .val (.int (Int32.ofNat c1.1)), .val (.int (Int32.ofNat c2.1)), .val (.int (Int32.ofNat cs.1)), .val (.int (Int32.ofNat cr.1)), .val (.ref b101), .val (.int E.2)] []) := by
    intro T h Lc E hE X e1 N Zh K Ab
    refine W.s1 (mkF m 83 #[.val (.int (0 : Int32)), .val (.int (Int32.ofNat c0.1)), .val (.int (Int32.ofNat c1.1)), .val (.int (Int32.ofNat c2.1)), .val (.int (Int32.ofNat cs.1)), .val (.int (Int32.ofNat cr.1)), .val (.ref b101), .val (.int E.2)] [(.int (Int32.ofNat c0.1))]) (fun _ kx_ => XS.iloadN X.here hx rfl (hb hby d1_82) rfl kx_) ?_
    refine W.s1 (mkF m 84 #[.val (.int (0 : Int32)), .val (.int (Int32.ofNat c0.1)), .val (.int (Int32.ofNat c1.1)), .val (.int (Int32.ofNat c2.1)), .val (.int (Int32.ofNat cs.1)), .val (.int (Int32.ofNat cr.1)), .val (.ref b101), .val (.int E.2)] [(.int (0 : Int32)), (.int (Int32.ofNat c0.1))]) (fun _ kx_ => XS.iloadN X.here hx rfl (hb hby d1_83) rfl kx_) ?_
    refine W.s1 (mkF m 85 #[.val (.int (0 : Int32)), .val (.int (Int32.ofNat c0.1)), .val (.int (Int32.ofNat c1.1)), .val (.int (Int32.ofNat c2.1)), .val (.int (Int32.ofNat cs.1)), .val (.int (Int32.ofNat cr.1)), .val (.ref b101), .val (.int E.2)] [(.int (1 : Int32)), (.int (0 : Int32)), (.int (Int32.ofNat c0.1))]) (fun _ kx_ => XS.iconst X.here hx rfl (hb hby d1_84) kx_) ?_
    refine W.s1 (mkF m 86 #[.val (.int (0 : Int32)), .val (.int (Int32.ofNat c0.1)), .val (.int (Int32.ofNat c1.1)), .val (.int (Int32.ofNat c2.1)), .val (.int (Int32.ofNat cs.1)), .val (.int (Int32.ofNat cr.1)), .val (.ref b101), .val (.int E.2)] [(.int (1 : Int32)), (.int (Int32.ofNat c0.1))]) (fun _ kx_ => XS.iadd X.here hx rfl (hb hby d1_85) rfl kx_) ?_
    refine W.icmp X hx (hb hby d1_86) (pc' := 103) (pc'' := 89) (by decide) (by decide) rfl (fun (c86 : ¬ (Int32.ofNat c0.1) = (1 : Int32)) => ?_) (fun (c86 : (Int32.ofNat c0.1) = (1 : Int32)) => ?_)
    · exact J103 _ _ _ E (by rw [hE]; exact Eq.symm (own_bF (own_p2 c86))) X e1 N Zh K Ab
    · refine W.s1 (mkF m 91 #[.val (.int (0 : Int32)), .val (.int (Int32.ofNat c0.1)), .val (.int (Int32.ofNat c1.1)), .val (.int (Int32.ofNat c2.1)), .val (.int (Int32.ofNat cs.1)), .val (.int (Int32.ofNat cr.1)), .val (.ref b101), .val (.int E.2)] [(.int (Int32.ofNat cs.1))]) (fun _ kx_ => XS.iload X.here hx rfl (hb hby d1_89) rfl kx_) ?_
      refine W.ifc X hx (hb hby d1_91) (pc' := 103) (pc'' := 94) (by decide) (by decide) rfl (fun (c91 : (Int32.ofNat cs.1) = (0 : Int32)) => ?_) (fun (c91 : ¬ (Int32.ofNat cs.1) = (0 : Int32)) => ?_)
      · exact J103 _ _ _ E (by rw [hE]; exact Eq.symm (own_bF (own_p3 c91))) X e1 N Zh K Ab
      · refine W.s1 (mkF m 96 #[.val (.int (0 : Int32)), .val (.int (Int32.ofNat c0.1)), .val (.int (Int32.ofNat c1.1)), .val (.int (Int32.ofNat c2.1)), .val (.int (Int32.ofNat cs.1)), .val (.int (Int32.ofNat cr.1)), .val (.ref b101), .val (.int E.2)] [(.ref b101)]) (fun _ kx_ => XS.aload X.here hx rfl (hb hby d1_94) rfl rfl kx_) ?_
        refine W.s1 (mkF m 98 #[.val (.int (0 : Int32)), .val (.int (Int32.ofNat c0.1)), .val (.int (Int32.ofNat c1.1)), .val (.int (Int32.ofNat c2.1)), .val (.int (Int32.ofNat cs.1)), .val (.int (Int32.ofNat cr.1)), .val (.ref b101), .val (.int E.2)] [(.int E.2), (.ref b101)]) (fun _ kx_ => XS.iload X.here hx rfl (hb hby d1_96) rfl kx_) ?_
        refine W.s1 (mkF m 99 #[.val (.int (0 : Int32)), .val (.int (Int32.ofNat c0.1)), .val (.int (Int32.ofNat c1.1)), .val (.int (Int32.ofNat c2.1)), .val (.int (Int32.ofNat cs.1)), .val (.int (Int32.ofNat cr.1)), .val (.ref b101), .val (.int E.2)] [(.int (0 : Int32)), (.int E.2), (.ref b101)]) (fun _ kx_ => XS.iconst X.here hx rfl (hb hby d1_98) kx_) ?_
        have hok := own_okE (x := E.2) (n := 3) (by rw [hE]; exact own_w4_1 c0 c1 c2 cs cr c91)
        refine W.sti X hx hZ e1 Ab (own_ix E.2) hok.1 hok.2 N ge101 (hb hby d1_99) (pc' := 100) rfl (fun T105 h105 L105 X105 e105 W105 fw105 N105 => ?_)
        have Z105 : n0 ≤ h105.size := Nat.le_trans Zh (Keep.of_wr W105).1
        have K105 : Keep h0 h105 [] := K.wr W105 (Or.inr sz101)
        refine W.s1 (mkF m 103 #[.val (.int (0 : Int32)), .val (.int (Int32.ofNat c0.1)), .val (.int (Int32.ofNat c1.1)), .val (.int (Int32.ofNat c2.1)), .val (.int (Int32.ofNat cs.1)), .val (.int (Int32.ofNat cr.1)), .val (.ref b101), .val (.int (E.2 + (1 : Int32)))] []) (fun _ kx_ => XS.iinc X105.here hx rfl (hb hby d1_100) rfl (l' := #[.val (.int (0 : Int32)), .val (.int (Int32.ofNat c0.1)), .val (.int (Int32.ofNat c1.1)), .val (.int (Int32.ofNat c2.1)), .val (.int (Int32.ofNat cs.1)), .val (.int (Int32.ofNat cr.1)), .val (.ref b101), .val (.int (E.2 + (1 : Int32)))]) rfl kx_) ?_
        exact J103 _ _ _ (W.up E.1 (own_ix E.2) (0 : Int32), E.2 + 1) (by rw [hE]; exact Eq.symm (own_bT (own_p1 c86 c91))) X105 e105 N105 Z105 K105 fw105
  have J60 : ∀ (T : State) (h : Heap) (Lc : List Loc) (E : own_T), E = own_e2 1 (Int32.ofNat c2.1) (Int32.ofNat cs.1) (Int32.ofNat cr.1) → Stand p l e ({ frames := 0, cells := 1, slots := 3, locals := 0 } : Room) s m #[(.int (0 : Int32)), (.int (Int32.ofNat c0.1)), (.int (Int32.ofNat c1.1)), (.int (Int32.ofNat c2.1)), (.int (Int32.ofNat cs.1)), (.int (Int32.ofNat cr.1))] below meth c T Lc 1 3 → T.heap = h → Fr n0 Lc → n0 ≤ h.size → Keep h0 h [] → W.AI Z h b101 .int 3 E.1 → W.Gl p e below s (Q1a Z c0 c1 c2 cs cr h0 n0) ({ frames := 0, cells := 1, slots := 3, locals := 0 } : Room).cells ({ frames := 0, cells := 1, slots := 3, locals := 0 } : Room).slots T (mkF m 60 #[.val (.int (0 : Int32)), .val (.int (Int32.ofNat c0.1)), .val (.int (Int32.ofNat c1.1)), .val (.int (Int32.ofNat c2.1)), .val (.int (Int32.ofNat cs.1)), .val (.int (Int32.ofNat cr.1)), .val (.ref b101), .val (.int E.2)] []) := by
    intro T h Lc E hE X e1 N Zh K Ab
    refine W.s1 (mkF m 61 #[.val (.int (0 : Int32)), .val (.int (Int32.ofNat c0.1)), .val (.int (Int32.ofNat c1.1)), .val (.int (Int32.ofNat c2.1)), .val (.int (Int32.ofNat cs.1)), .val (.int (Int32.ofNat cr.1)), .val (.ref b101), .val (.int E.2)] [(.int (Int32.ofNat c1.1))]) (fun _ kx_ => XS.iloadN X.here hx rfl (hb hby d1_60) rfl kx_) ?_
    refine W.s1 (mkF m 62 #[.val (.int (0 : Int32)), .val (.int (Int32.ofNat c0.1)), .val (.int (Int32.ofNat c1.1)), .val (.int (Int32.ofNat c2.1)), .val (.int (Int32.ofNat cs.1)), .val (.int (Int32.ofNat cr.1)), .val (.ref b101), .val (.int E.2)] [(.int (0 : Int32)), (.int (Int32.ofNat c1.1))]) (fun _ kx_ => XS.iloadN X.here hx rfl (hb hby d1_61) rfl kx_) ?_
    refine W.s1 (mkF m 63 #[.val (.int (0 : Int32)), .val (.int (Int32.ofNat c0.1)), .val (.int (Int32.ofNat c1.1)), .val (.int (Int32.ofNat c2.1)), .val (.int (Int32.ofNat cs.1)), .val (.int (Int32.ofNat cr.1)), .val (.ref b101), .val (.int E.2)] [(.int (1 : Int32)), (.int (0 : Int32)), (.int (Int32.ofNat c1.1))]) (fun _ kx_ => XS.iconst X.here hx rfl (hb hby d1_62) kx_) ?_
    refine W.s1 (mkF m 64 #[.val (.int (0 : Int32)), .val (.int (Int32.ofNat c0.1)), .val (.int (Int32.ofNat c1.1)), .val (.int (Int32.ofNat c2.1)), .val (.int (Int32.ofNat cs.1)), .val (.int (Int32.ofNat cr.1)), .val (.ref b101), .val (.int E.2)] [(.int (1 : Int32)), (.int (Int32.ofNat c1.1))]) (fun _ kx_ => XS.iadd X.here hx rfl (hb hby d1_63) rfl kx_) ?_
    refine W.icmp X hx (hb hby d1_64) (pc' := 82) (pc'' := 67) (by decide) (by decide) rfl (fun (c64 : ¬ (Int32.ofNat c1.1) = (1 : Int32)) => ?_) (fun (c64 : (Int32.ofNat c1.1) = (1 : Int32)) => ?_)
    · exact J82 _ _ _ E (by rw [hE]; exact Eq.symm (own_bF (own_p2 c64))) X e1 N Zh K Ab
    · refine W.s1 (mkF m 69 #[.val (.int (0 : Int32)), .val (.int (Int32.ofNat c0.1)), .val (.int (Int32.ofNat c1.1)), .val (.int (Int32.ofNat c2.1)), .val (.int (Int32.ofNat cs.1)), .val (.int (Int32.ofNat cr.1)), .val (.ref b101), .val (.int E.2)] [(.int (Int32.ofNat cs.1))]) (fun _ kx_ => XS.iload X.here hx rfl (hb hby d1_67) rfl kx_) ?_
      refine W.s1 (mkF m 70 #[.val (.int (0 : Int32)), .val (.int (Int32.ofNat c0.1)), .val (.int (Int32.ofNat c1.1)), .val (.int (Int32.ofNat c2.1)), .val (.int (Int32.ofNat cs.1)), .val (.int (Int32.ofNat cr.1)), .val (.ref b101), .val (.int E.2)] [(.int (1 : Int32)), (.int (Int32.ofNat cs.1))]) (fun _ kx_ => XS.iconst X.here hx rfl (hb hby d1_69) kx_) ?_
      refine W.icmp X hx (hb hby d1_70) (pc' := 82) (pc'' := 73) (by decide) (by decide) rfl (fun (c70 : (Int32.ofNat cs.1) = (1 : Int32)) => ?_) (fun (c70 : ¬ (Int32.ofNat cs.1) = (1 : Int32)) => ?_)
      · exact J82 _ _ _ E (by rw [hE]; exact Eq.symm (own_bF (own_p3 c70))) X e1 N Zh K Ab
      · refine W.s1 (mkF m 75 #[.val (.int (0 : Int32)), .val (.int (Int32.ofNat c0.1)), .val (.int (Int32.ofNat c1.1)), .val (.int (Int32.ofNat c2.1)), .val (.int (Int32.ofNat cs.1)), .val (.int (Int32.ofNat cr.1)), .val (.ref b101), .val (.int E.2)] [(.ref b101)]) (fun _ kx_ => XS.aload X.here hx rfl (hb hby d1_73) rfl rfl kx_) ?_
        refine W.s1 (mkF m 77 #[.val (.int (0 : Int32)), .val (.int (Int32.ofNat c0.1)), .val (.int (Int32.ofNat c1.1)), .val (.int (Int32.ofNat c2.1)), .val (.int (Int32.ofNat cs.1)), .val (.int (Int32.ofNat cr.1)), .val (.ref b101), .val (.int E.2)] [(.int E.2), (.ref b101)]) (fun _ kx_ => XS.iload X.here hx rfl (hb hby d1_75) rfl kx_) ?_
        refine W.s1 (mkF m 78 #[.val (.int (0 : Int32)), .val (.int (Int32.ofNat c0.1)), .val (.int (Int32.ofNat c1.1)), .val (.int (Int32.ofNat c2.1)), .val (.int (Int32.ofNat cs.1)), .val (.int (Int32.ofNat cr.1)), .val (.ref b101), .val (.int E.2)] [(.int (1 : Int32)), (.int E.2), (.ref b101)]) (fun _ kx_ => XS.iconst X.here hx rfl (hb hby d1_77) kx_) ?_
        have hok := own_okE (x := E.2) (n := 3) (by rw [hE]; exact (own_w3_1 c2 cs cr))
        refine W.sti X hx hZ e1 Ab (own_ix E.2) hok.1 hok.2 N ge101 (hb hby d1_78) (pc' := 79) rfl (fun T106 h106 L106 X106 e106 W106 fw106 N106 => ?_)
        have Z106 : n0 ≤ h106.size := Nat.le_trans Zh (Keep.of_wr W106).1
        have K106 : Keep h0 h106 [] := K.wr W106 (Or.inr sz101)
        refine W.s1 (mkF m 82 #[.val (.int (0 : Int32)), .val (.int (Int32.ofNat c0.1)), .val (.int (Int32.ofNat c1.1)), .val (.int (Int32.ofNat c2.1)), .val (.int (Int32.ofNat cs.1)), .val (.int (Int32.ofNat cr.1)), .val (.ref b101), .val (.int (E.2 + (1 : Int32)))] []) (fun _ kx_ => XS.iinc X106.here hx rfl (hb hby d1_79) rfl (l' := #[.val (.int (0 : Int32)), .val (.int (Int32.ofNat c0.1)), .val (.int (Int32.ofNat c1.1)), .val (.int (Int32.ofNat c2.1)), .val (.int (Int32.ofNat cs.1)), .val (.int (Int32.ofNat cr.1)), .val (.ref b101), .val (.int (E.2 + (1 : Int32)))]) rfl kx_) ?_
        exact J82 _ _ _ (W.up E.1 (own_ix E.2) (1 : Int32), E.2 + 1) (by rw [hE]; exact Eq.symm (own_bT (own_p1 c64 c70))) X106 e106 N106 Z106 K106 fw106
  have J38 : ∀ (T : State) (h : Heap) (Lc : List Loc) (E : own_T), E = own_e1 1 (Int32.ofNat cs.1) (Int32.ofNat cr.1) → Stand p l e ({ frames := 0, cells := 1, slots := 3, locals := 0 } : Room) s m #[(.int (0 : Int32)), (.int (Int32.ofNat c0.1)), (.int (Int32.ofNat c1.1)), (.int (Int32.ofNat c2.1)), (.int (Int32.ofNat cs.1)), (.int (Int32.ofNat cr.1))] below meth c T Lc 1 3 → T.heap = h → Fr n0 Lc → n0 ≤ h.size → Keep h0 h [] → W.AI Z h b101 .int 3 E.1 → W.Gl p e below s (Q1a Z c0 c1 c2 cs cr h0 n0) ({ frames := 0, cells := 1, slots := 3, locals := 0 } : Room).cells ({ frames := 0, cells := 1, slots := 3, locals := 0 } : Room).slots T (mkF m 38 #[.val (.int (0 : Int32)), .val (.int (Int32.ofNat c0.1)), .val (.int (Int32.ofNat c1.1)), .val (.int (Int32.ofNat c2.1)), .val (.int (Int32.ofNat cs.1)), .val (.int (Int32.ofNat cr.1)), .val (.ref b101), .val (.int E.2)] []) := by
    intro T h Lc E hE X e1 N Zh K Ab
    refine W.s1 (mkF m 39 #[.val (.int (0 : Int32)), .val (.int (Int32.ofNat c0.1)), .val (.int (Int32.ofNat c1.1)), .val (.int (Int32.ofNat c2.1)), .val (.int (Int32.ofNat cs.1)), .val (.int (Int32.ofNat cr.1)), .val (.ref b101), .val (.int E.2)] [(.int (Int32.ofNat c2.1))]) (fun _ kx_ => XS.iloadN X.here hx rfl (hb hby d1_38) rfl kx_) ?_
    refine W.s1 (mkF m 40 #[.val (.int (0 : Int32)), .val (.int (Int32.ofNat c0.1)), .val (.int (Int32.ofNat c1.1)), .val (.int (Int32.ofNat c2.1)), .val (.int (Int32.ofNat cs.1)), .val (.int (Int32.ofNat cr.1)), .val (.ref b101), .val (.int E.2)] [(.int (0 : Int32)), (.int (Int32.ofNat c2.1))]) (fun _ kx_ => XS.iloadN X.here hx rfl (hb hby d1_39) rfl kx_) ?_
    refine W.s1 (mkF m 41 #[.val (.int (0 : Int32)), .val (.int (Int32.ofNat c0.1)), .val (.int (Int32.ofNat c1.1)), .val (.int (Int32.ofNat c2.1)), .val (.int (Int32.ofNat cs.1)), .val (.int (Int32.ofNat cr.1)), .val (.ref b101), .val (.int E.2)] [(.int (1 : Int32)), (.int (0 : Int32)), (.int (Int32.ofNat c2.1))]) (fun _ kx_ => XS.iconst X.here hx rfl (hb hby d1_40) kx_) ?_
    refine W.s1 (mkF m 42 #[.val (.int (0 : Int32)), .val (.int (Int32.ofNat c0.1)), .val (.int (Int32.ofNat c1.1)), .val (.int (Int32.ofNat c2.1)), .val (.int (Int32.ofNat cs.1)), .val (.int (Int32.ofNat cr.1)), .val (.ref b101), .val (.int E.2)] [(.int (1 : Int32)), (.int (Int32.ofNat c2.1))]) (fun _ kx_ => XS.iadd X.here hx rfl (hb hby d1_41) rfl kx_) ?_
    refine W.icmp X hx (hb hby d1_42) (pc' := 60) (pc'' := 45) (by decide) (by decide) rfl (fun (c42 : ¬ (Int32.ofNat c2.1) = (1 : Int32)) => ?_) (fun (c42 : (Int32.ofNat c2.1) = (1 : Int32)) => ?_)
    · exact J60 _ _ _ E (by rw [hE]; exact Eq.symm (own_bF (own_p2 c42))) X e1 N Zh K Ab
    · refine W.s1 (mkF m 47 #[.val (.int (0 : Int32)), .val (.int (Int32.ofNat c0.1)), .val (.int (Int32.ofNat c1.1)), .val (.int (Int32.ofNat c2.1)), .val (.int (Int32.ofNat cs.1)), .val (.int (Int32.ofNat cr.1)), .val (.ref b101), .val (.int E.2)] [(.int (Int32.ofNat cs.1))]) (fun _ kx_ => XS.iload X.here hx rfl (hb hby d1_45) rfl kx_) ?_
      refine W.s1 (mkF m 48 #[.val (.int (0 : Int32)), .val (.int (Int32.ofNat c0.1)), .val (.int (Int32.ofNat c1.1)), .val (.int (Int32.ofNat c2.1)), .val (.int (Int32.ofNat cs.1)), .val (.int (Int32.ofNat cr.1)), .val (.ref b101), .val (.int E.2)] [(.int (2 : Int32)), (.int (Int32.ofNat cs.1))]) (fun _ kx_ => XS.iconst X.here hx rfl (hb hby d1_47) kx_) ?_
      refine W.icmp X hx (hb hby d1_48) (pc' := 60) (pc'' := 51) (by decide) (by decide) rfl (fun (c48 : (Int32.ofNat cs.1) = (2 : Int32)) => ?_) (fun (c48 : ¬ (Int32.ofNat cs.1) = (2 : Int32)) => ?_)
      · exact J60 _ _ _ E (by rw [hE]; exact Eq.symm (own_bF (own_p3 c48))) X e1 N Zh K Ab
      · refine W.s1 (mkF m 53 #[.val (.int (0 : Int32)), .val (.int (Int32.ofNat c0.1)), .val (.int (Int32.ofNat c1.1)), .val (.int (Int32.ofNat c2.1)), .val (.int (Int32.ofNat cs.1)), .val (.int (Int32.ofNat cr.1)), .val (.ref b101), .val (.int E.2)] [(.ref b101)]) (fun _ kx_ => XS.aload X.here hx rfl (hb hby d1_51) rfl rfl kx_) ?_
        refine W.s1 (mkF m 55 #[.val (.int (0 : Int32)), .val (.int (Int32.ofNat c0.1)), .val (.int (Int32.ofNat c1.1)), .val (.int (Int32.ofNat c2.1)), .val (.int (Int32.ofNat cs.1)), .val (.int (Int32.ofNat cr.1)), .val (.ref b101), .val (.int E.2)] [(.int E.2), (.ref b101)]) (fun _ kx_ => XS.iload X.here hx rfl (hb hby d1_53) rfl kx_) ?_
        refine W.s1 (mkF m 56 #[.val (.int (0 : Int32)), .val (.int (Int32.ofNat c0.1)), .val (.int (Int32.ofNat c1.1)), .val (.int (Int32.ofNat c2.1)), .val (.int (Int32.ofNat cs.1)), .val (.int (Int32.ofNat cr.1)), .val (.ref b101), .val (.int E.2)] [(.int (2 : Int32)), (.int E.2), (.ref b101)]) (fun _ kx_ => XS.iconst X.here hx rfl (hb hby d1_55) kx_) ?_
        have hok := own_okE (x := E.2) (n := 3) (by rw [hE]; exact (own_w2_1 cs cr))
        refine W.sti X hx hZ e1 Ab (own_ix E.2) hok.1 hok.2 N ge101 (hb hby d1_56) (pc' := 57) rfl (fun T107 h107 L107 X107 e107 W107 fw107 N107 => ?_)
        have Z107 : n0 ≤ h107.size := Nat.le_trans Zh (Keep.of_wr W107).1
        have K107 : Keep h0 h107 [] := K.wr W107 (Or.inr sz101)
        refine W.s1 (mkF m 60 #[.val (.int (0 : Int32)), .val (.int (Int32.ofNat c0.1)), .val (.int (Int32.ofNat c1.1)), .val (.int (Int32.ofNat c2.1)), .val (.int (Int32.ofNat cs.1)), .val (.int (Int32.ofNat cr.1)), .val (.ref b101), .val (.int (E.2 + (1 : Int32)))] []) (fun _ kx_ => XS.iinc X107.here hx rfl (hb hby d1_57) rfl (l' := #[.val (.int (0 : Int32)), .val (.int (Int32.ofNat c0.1)), .val (.int (Int32.ofNat c1.1)), .val (.int (Int32.ofNat c2.1)), .val (.int (Int32.ofNat cs.1)), .val (.int (Int32.ofNat cr.1)), .val (.ref b101), .val (.int (E.2 + (1 : Int32)))]) rfl kx_) ?_
        exact J60 _ _ _ (W.up E.1 (own_ix E.2) (2 : Int32), E.2 + 1) (by rw [hE]; exact Eq.symm (own_bT (own_p1 c42 c48))) X107 e107 N107 Z107 K107 fw107
  have J20 : ∀ (T : State) (h : Heap) (Lc : List Loc) (E : own_T), E = own_e0 → Stand p l e ({ frames := 0, cells := 1, slots := 3, locals := 0 } : Room) s m #[(.int (0 : Int32)), (.int (Int32.ofNat c0.1)), (.int (Int32.ofNat c1.1)), (.int (Int32.ofNat c2.1)), (.int (Int32.ofNat cs.1)), (.int (Int32.ofNat cr.1))] below meth c T Lc 1 3 → T.heap = h → Fr n0 Lc → n0 ≤ h.size → Keep h0 h [] → W.AI Z h b101 .int 3 E.1 → W.Gl p e below s (Q1a Z c0 c1 c2 cs cr h0 n0) ({ frames := 0, cells := 1, slots := 3, locals := 0 } : Room).cells ({ frames := 0, cells := 1, slots := 3, locals := 0 } : Room).slots T (mkF m 20 #[.val (.int (0 : Int32)), .val (.int (Int32.ofNat c0.1)), .val (.int (Int32.ofNat c1.1)), .val (.int (Int32.ofNat c2.1)), .val (.int (Int32.ofNat cs.1)), .val (.int (Int32.ofNat cr.1)), .val (.ref b101), .val (.int E.2)] []) := by
    intro T h Lc E hE X e1 N Zh K Ab
    refine W.s1 (mkF m 22 #[.val (.int (0 : Int32)), .val (.int (Int32.ofNat c0.1)), .val (.int (Int32.ofNat c1.1)), .val (.int (Int32.ofNat c2.1)), .val (.int (Int32.ofNat cs.1)), .val (.int (Int32.ofNat cr.1)), .val (.ref b101), .val (.int E.2)] [(.int (Int32.ofNat cr.1))]) (fun _ kx_ => XS.iload X.here hx rfl (hb hby d1_20) rfl kx_) ?_
    refine W.s1 (mkF m 23 #[.val (.int (0 : Int32)), .val (.int (Int32.ofNat c0.1)), .val (.int (Int32.ofNat c1.1)), .val (.int (Int32.ofNat c2.1)), .val (.int (Int32.ofNat cs.1)), .val (.int (Int32.ofNat cr.1)), .val (.ref b101), .val (.int E.2)] [(.int (0 : Int32)), (.int (Int32.ofNat cr.1))]) (fun _ kx_ => XS.iloadN X.here hx rfl (hb hby d1_22) rfl kx_) ?_
    refine W.s1 (mkF m 24 #[.val (.int (0 : Int32)), .val (.int (Int32.ofNat c0.1)), .val (.int (Int32.ofNat c1.1)), .val (.int (Int32.ofNat c2.1)), .val (.int (Int32.ofNat cs.1)), .val (.int (Int32.ofNat cr.1)), .val (.ref b101), .val (.int E.2)] [(.int (1 : Int32)), (.int (0 : Int32)), (.int (Int32.ofNat cr.1))]) (fun _ kx_ => XS.iconst X.here hx rfl (hb hby d1_23) kx_) ?_
    refine W.s1 (mkF m 25 #[.val (.int (0 : Int32)), .val (.int (Int32.ofNat c0.1)), .val (.int (Int32.ofNat c1.1)), .val (.int (Int32.ofNat c2.1)), .val (.int (Int32.ofNat cs.1)), .val (.int (Int32.ofNat cr.1)), .val (.ref b101), .val (.int E.2)] [(.int (1 : Int32)), (.int (Int32.ofNat cr.1))]) (fun _ kx_ => XS.iadd X.here hx rfl (hb hby d1_24) rfl kx_) ?_
    refine W.icmp X hx (hb hby d1_25) (pc' := 38) (pc'' := 28) (by decide) (by decide) rfl (fun (c25 : ¬ (Int32.ofNat cr.1) = (1 : Int32)) => ?_) (fun (c25 : (Int32.ofNat cr.1) = (1 : Int32)) => ?_)
    · exact J38 _ _ _ E (by rw [hE]; exact Eq.symm (own_bF (own_p5 c25))) X e1 N Zh K Ab
    · refine W.s1 (mkF m 30 #[.val (.int (0 : Int32)), .val (.int (Int32.ofNat c0.1)), .val (.int (Int32.ofNat c1.1)), .val (.int (Int32.ofNat c2.1)), .val (.int (Int32.ofNat cs.1)), .val (.int (Int32.ofNat cr.1)), .val (.ref b101), .val (.int E.2)] [(.ref b101)]) (fun _ kx_ => XS.aload X.here hx rfl (hb hby d1_28) rfl rfl kx_) ?_
      refine W.s1 (mkF m 32 #[.val (.int (0 : Int32)), .val (.int (Int32.ofNat c0.1)), .val (.int (Int32.ofNat c1.1)), .val (.int (Int32.ofNat c2.1)), .val (.int (Int32.ofNat cs.1)), .val (.int (Int32.ofNat cr.1)), .val (.ref b101), .val (.int E.2)] [(.int E.2), (.ref b101)]) (fun _ kx_ => XS.iload X.here hx rfl (hb hby d1_30) rfl kx_) ?_
      refine W.s1 (mkF m 34 #[.val (.int (0 : Int32)), .val (.int (Int32.ofNat c0.1)), .val (.int (Int32.ofNat c1.1)), .val (.int (Int32.ofNat c2.1)), .val (.int (Int32.ofNat cs.1)), .val (.int (Int32.ofNat cr.1)), .val (.ref b101), .val (.int E.2)] [(.int (Int32.ofNat cs.1)), (.int E.2), (.ref b101)]) (fun _ kx_ => XS.iload X.here hx rfl (hb hby d1_32) rfl kx_) ?_
      have hok := own_okE (x := E.2) (n := 3) (by rw [hE]; exact (own_w1_1 cs cr))
      refine W.sti X hx hZ e1 Ab (own_ix E.2) hok.1 hok.2 N ge101 (hb hby d1_34) (pc' := 35) rfl (fun T108 h108 L108 X108 e108 W108 fw108 N108 => ?_)
      have Z108 : n0 ≤ h108.size := Nat.le_trans Zh (Keep.of_wr W108).1
      have K108 : Keep h0 h108 [] := K.wr W108 (Or.inr sz101)
      refine W.s1 (mkF m 38 #[.val (.int (0 : Int32)), .val (.int (Int32.ofNat c0.1)), .val (.int (Int32.ofNat c1.1)), .val (.int (Int32.ofNat c2.1)), .val (.int (Int32.ofNat cs.1)), .val (.int (Int32.ofNat cr.1)), .val (.ref b101), .val (.int (E.2 + (1 : Int32)))] []) (fun _ kx_ => XS.iinc X108.here hx rfl (hb hby d1_35) rfl (l' := #[.val (.int (0 : Int32)), .val (.int (Int32.ofNat c0.1)), .val (.int (Int32.ofNat c1.1)), .val (.int (Int32.ofNat c2.1)), .val (.int (Int32.ofNat cs.1)), .val (.int (Int32.ofNat cr.1)), .val (.ref b101), .val (.int (E.2 + (1 : Int32)))]) rfl kx_) ?_
      exact J38 _ _ _ (W.up E.1 (own_ix E.2) (Int32.ofNat cs.1), E.2 + 1) (by rw [hE]; exact Eq.symm (own_bT (decide_eq_true c25))) X108 e108 N108 Z108 K108 fw108
  exact J20 _ _ _ own_e0 rfl X104 e104 N104 Z104 K104 fw104
theorem ef_1b (m : MethodId) (x0 : Int32) (x1 : Int32) (x2 : Int32) (x3 : Int32) (x4 : Int32) (x5 : Int32) : entryFrame m #[(.int x0), (.int x1), (.int x2), (.int x3), (.int x4), (.int x5)] 8 = mkF m 0 #[.val (.int x0), .val (.int x1), .val (.int x2), .val (.int x3), .val (.int x4), .val (.int x5), .unset, .unset] [] := by first | (simp [entryFrame, mkF, argsToLocals, Value.category]; done) | rfl
def Q1b (Z : State) (c0 : Fin 3) (c1 : Fin 3) (c2 : Fin 3) (cs : Fin 3) (cr : Fin 3) (h0 : Heap) (n0 : Nat) (v : Option Value) (h : Heap) (L : List Loc) : Prop := ∃ b : Addr, v = some (.ref b) ∧ Fr n0 L ∧ Keep h0 h [] ∧ h0.size ≤ b ∧ W.AI Z h b .int 3 (own_E 2 c0 c1 c2 cs cr).1
set_option maxRecDepth 65536 in
set_option maxHeartbeats 40000000 in
theorem rm1b (l : Launch) (Z : State) (a0 : Array Value) (hw : ∀ d ∈ tables_1, d.before a0 Z = true) (ws : List Jvm.Cond) (c0 : Fin 3) (c1 : Fin 3) (c2 : Fin 3) (cs : Fin 3) (cr : Fin 3) (h0 : Heap) (n0 : Nat) (Z0 : n0 ≤ h0.size) :
    MetFree l (⟨"com/example/stummel/stummel/geometry/PendingCrossingsCancelPinLaw", "expected", "(IIIIII)[I"⟩ : MethodName) (head1 (Jvm.Cond.code (⟨"com/example/stummel/stummel/geometry/PendingCrossingsCancelPinLaw", "expected", "(IIIIII)[I"⟩ : MethodName) method_4_code 8 (some (.array .int)) :: ws) ({ frames := 0, cells := 1, slots := 3, locals := 0 } : Room)) (fun a U => a = #[(.int (1 : Int32)), (.int (Int32.ofNat c0.1)), (.int (Int32.ofNat c1.1)), (.int (Int32.ofNat c2.1)), (.int (Int32.ofNat cs.1)), (.int (Int32.ofNat cr.1))] ∧ Z.Warmed39 U.vm ∧ U.heap = h0) (fun _ _ _ _ _ => True) (fun _ U o U' => ∃ v L, o = .returned v ∧ Q1b Z c0 c1 c2 cs cr h0 n0 v U'.heap L ∧ FrameEnd U o U' L ({ frames := 0, cells := 1, slots := 3, locals := 0 } : Room).cells ({ frames := 0, cells := 1, slots := 3, locals := 0 } : Room).slots) := by
  refine MetFree.of_bodySF (plainFor_of_name pn_0) hisR ?_
  intro p e s m args below meth c s₁ Bd hml0 hP hK
  obtain ⟨rfl, hZ, hh⟩ := hP
  have hx := Bd.exec
  have hby := Bd.bytes
  have hml : c.maxLocals = 8 := hml0
  have hown : s.vm.findClass "com/example/stummel/stummel/geometry/PendingCrossingsCancelPinLaw" = some m.cls := findClass_of_methodNamed Bd.named
  have hnm := (name_of_methodNamed Bd.named Bd.method).1
  have hlk : meth.locks = false := BodyLoose.notSynchronized Bd
  have X0 : Stand p l e ({ frames := 0, cells := 1, slots := 3, locals := 0 } : Room) s m #[(.int (1 : Int32)), (.int (Int32.ofNat c0.1)), (.int (Int32.ofNat c1.1)), (.int (Int32.ofNat c2.1)), (.int (Int32.ofNat cs.1)), (.int (Int32.ofNat cr.1))] below meth c s₁ [] 0 0 := Stand.of_body Bd
  have e0 : s₁.heap = h0 := by rw [← hh, Bd.state]; rfl
  have N0 := Fr.nil n0
  show W.Gl p e below s (Q1b Z c0 c1 c2 cs cr h0 n0) ({ frames := 0, cells := 1, slots := 3, locals := 0 } : Room).cells ({ frames := 0, cells := 1, slots := 3, locals := 0 } : Room).slots s₁ (entryFrame m #[(.int (1 : Int32)), (.int (Int32.ofNat c0.1)), (.int (Int32.ofNat c1.1)), (.int (Int32.ofNat c2.1)), (.int (Int32.ofNat cs.1)), (.int (Int32.ofNat cr.1))] 8)
  refine W.cast (ef_1b m (1 : Int32) (Int32.ofNat c0.1) (Int32.ofNat c1.1) (Int32.ofNat c2.1) (Int32.ofNat cs.1) (Int32.ofNat cr.1)) ?_
  have K0 : Keep h0 h0 [] := Keep.refl h0 []
  refine W.s1 (mkF m 1 #[.val (.int (1 : Int32)), .val (.int (Int32.ofNat c0.1)), .val (.int (Int32.ofNat c1.1)), .val (.int (Int32.ofNat c2.1)), .val (.int (Int32.ofNat cs.1)), .val (.int (Int32.ofNat cr.1)), .unset, .unset] [(.int (3 : Int32))]) (fun _ kx_ => XS.iconst X0.here hx rfl (hb hby d1_0) kx_) ?_
  refine W.newi X0 hx hZ (ty := .int) (aty := .int) (hw _ (List.mem_of_getElem? (i := 5) rfl)) rfl rfl e0 (hb hby d1_1) (n := 3) rfl (cap := 3) (Nat.le_refl _) (by decide) (by decide) (by decide) (pc' := 3) rfl (fun T101 h101 b101 X101 e101 E101 g101 A101 => ?_)
  have ge101 : n0 ≤ b101 := Nat.le_trans Z0 (Nat.le_of_eq g101.symm)
  have sz101 : h0.size ≤ b101 := Nat.le_trans K0.1 (Nat.le_of_eq g101.symm)
  have Z101 : n0 ≤ h101.size := Nat.le_trans Z0 E101.1
  have K101 : Keep h0 h101 [] := K0.ext E101
  refine W.s1 (mkF m 4 #[.val (.int (1 : Int32)), .val (.int (Int32.ofNat c0.1)), .val (.int (Int32.ofNat c1.1)), .val (.int (Int32.ofNat c2.1)), .val (.int (Int32.ofNat cs.1)), .val (.int (Int32.ofNat cr.1)), .unset, .unset] [(.ref b101), (.ref b101)]) (fun _ kx_ => XS.dup X101.here hx rfl (hb hby d1_3) rfl rfl kx_) ?_
  refine W.s1 (mkF m 5 #[.val (.int (1 : Int32)), .val (.int (Int32.ofNat c0.1)), .val (.int (Int32.ofNat c1.1)), .val (.int (Int32.ofNat c2.1)), .val (.int (Int32.ofNat cs.1)), .val (.int (Int32.ofNat cr.1)), .unset, .unset] [(.int (0 : Int32)), (.ref b101), (.ref b101)]) (fun _ kx_ => XS.iconst X101.here hx rfl (hb hby d1_4) kx_) ?_
  refine W.s1 (mkF m 6 #[.val (.int (1 : Int32)), .val (.int (Int32.ofNat c0.1)), .val (.int (Int32.ofNat c1.1)), .val (.int (Int32.ofNat c2.1)), .val (.int (Int32.ofNat cs.1)), .val (.int (Int32.ofNat cr.1)), .unset, .unset] [(.int (-1 : Int32)), (.int (0 : Int32)), (.ref b101), (.ref b101)]) (fun _ kx_ => XS.iconst X101.here hx rfl (hb hby d1_5) kx_) ?_
  refine W.sti X101 hx hZ e101 A101 0 rfl (by first | decide | simp) N0 ge101 (hb hby d1_6) (pc' := 7) rfl (fun T102 h102 L102 X102 e102 W102 fw102 N102 => ?_)
  have Z102 : n0 ≤ h102.size := Nat.le_trans Z101 (Keep.of_wr W102).1
  have K102 : Keep h0 h102 [] := K101.wr W102 (Or.inr sz101)
  refine W.s1 (mkF m 8 #[.val (.int (1 : Int32)), .val (.int (Int32.ofNat c0.1)), .val (.int (Int32.ofNat c1.1)), .val (.int (Int32.ofNat c2.1)), .val (.int (Int32.ofNat cs.1)), .val (.int (Int32.ofNat cr.1)), .unset, .unset] [(.ref b101), (.ref b101)]) (fun _ kx_ => XS.dup X102.here hx rfl (hb hby d1_7) rfl rfl kx_) ?_
  refine W.s1 (mkF m 9 #[.val (.int (1 : Int32)), .val (.int (Int32.ofNat c0.1)), .val (.int (Int32.ofNat c1.1)), .val (.int (Int32.ofNat c2.1)), .val (.int (Int32.ofNat cs.1)), .val (.int (Int32.ofNat cr.1)), .unset, .unset] [(.int (1 : Int32)), (.ref b101), (.ref b101)]) (fun _ kx_ => XS.iconst X102.here hx rfl (hb hby d1_8) kx_) ?_
  refine W.s1 (mkF m 10 #[.val (.int (1 : Int32)), .val (.int (Int32.ofNat c0.1)), .val (.int (Int32.ofNat c1.1)), .val (.int (Int32.ofNat c2.1)), .val (.int (Int32.ofNat cs.1)), .val (.int (Int32.ofNat cr.1)), .unset, .unset] [(.int (-1 : Int32)), (.int (1 : Int32)), (.ref b101), (.ref b101)]) (fun _ kx_ => XS.iconst X102.here hx rfl (hb hby d1_9) kx_) ?_
  refine W.sti X102 hx hZ e102 fw102 1 rfl (by first | decide | simp) N102 ge101 (hb hby d1_10) (pc' := 11) rfl (fun T103 h103 L103 X103 e103 W103 fw103 N103 => ?_)
  have Z103 : n0 ≤ h103.size := Nat.le_trans Z102 (Keep.of_wr W103).1
  have K103 : Keep h0 h103 [] := K102.wr W103 (Or.inr sz101)
  refine W.s1 (mkF m 12 #[.val (.int (1 : Int32)), .val (.int (Int32.ofNat c0.1)), .val (.int (Int32.ofNat c1.1)), .val (.int (Int32.ofNat c2.1)), .val (.int (Int32.ofNat cs.1)), .val (.int (Int32.ofNat cr.1)), .unset, .unset] [(.ref b101), (.ref b101)]) (fun _ kx_ => XS.dup X103.here hx rfl (hb hby d1_11) rfl rfl kx_) ?_
  refine W.s1 (mkF m 13 #[.val (.int (1 : Int32)), .val (.int (Int32.ofNat c0.1)), .val (.int (Int32.ofNat c1.1)), .val (.int (Int32.ofNat c2.1)), .val (.int (Int32.ofNat cs.1)), .val (.int (Int32.ofNat cr.1)), .unset, .unset] [(.int (2 : Int32)), (.ref b101), (.ref b101)]) (fun _ kx_ => XS.iconst X103.here hx rfl (hb hby d1_12) kx_) ?_
  refine W.s1 (mkF m 14 #[.val (.int (1 : Int32)), .val (.int (Int32.ofNat c0.1)), .val (.int (Int32.ofNat c1.1)), .val (.int (Int32.ofNat c2.1)), .val (.int (Int32.ofNat cs.1)), .val (.int (Int32.ofNat cr.1)), .unset, .unset] [(.int (-1 : Int32)), (.int (2 : Int32)), (.ref b101), (.ref b101)]) (fun _ kx_ => XS.iconst X103.here hx rfl (hb hby d1_13) kx_) ?_
  refine W.sti X103 hx hZ e103 fw103 2 rfl (by first | decide | simp) N103 ge101 (hb hby d1_14) (pc' := 15) rfl (fun T104 h104 L104 X104 e104 W104 fw104 N104 => ?_)
  have Z104 : n0 ≤ h104.size := Nat.le_trans Z103 (Keep.of_wr W104).1
  have K104 : Keep h0 h104 [] := K103.wr W104 (Or.inr sz101)
  refine W.s1 (mkF m 17 #[.val (.int (1 : Int32)), .val (.int (Int32.ofNat c0.1)), .val (.int (Int32.ofNat c1.1)), .val (.int (Int32.ofNat c2.1)), .val (.int (Int32.ofNat cs.1)), .val (.int (Int32.ofNat cr.1)), .val (.ref b101), .unset] []) (fun _ kx_ => XS.astore X104.here hx rfl (hb hby d1_15) rfl rfl (l' := #[.val (.int (1 : Int32)), .val (.int (Int32.ofNat c0.1)), .val (.int (Int32.ofNat c1.1)), .val (.int (Int32.ofNat c2.1)), .val (.int (Int32.ofNat cs.1)), .val (.int (Int32.ofNat cr.1)), .val (.ref b101), .unset]) rfl kx_) ?_
  refine W.s1 (mkF m 18 #[.val (.int (1 : Int32)), .val (.int (Int32.ofNat c0.1)), .val (.int (Int32.ofNat c1.1)), .val (.int (Int32.ofNat c2.1)), .val (.int (Int32.ofNat cs.1)), .val (.int (Int32.ofNat cr.1)), .val (.ref b101), .unset] [(.int (0 : Int32))]) (fun _ kx_ => XS.iconst X104.here hx rfl (hb hby d1_17) kx_) ?_
  refine W.s1 (mkF m 20 #[.val (.int (1 : Int32)), .val (.int (Int32.ofNat c0.1)), .val (.int (Int32.ofNat c1.1)), .val (.int (Int32.ofNat c2.1)), .val (.int (Int32.ofNat cs.1)), .val (.int (Int32.ofNat cr.1)), .val (.ref b101), .val (.int (0 : Int32))] []) (fun _ kx_ => XS.istore X104.here hx rfl (hb hby d1_18) rfl (l' := #[.val (.int (1 : Int32)), .val (.int (Int32.ofNat c0.1)), .val (.int (Int32.ofNat c1.1)), .val (.int (Int32.ofNat c2.1)), .val (.int (Int32.ofNat cs.1)), .val (.int (Int32.ofNat cr.1)), .val (.ref b101), .val (.int (0 : Int32))]) rfl kx_) ?_
  have J103 : ∀ (T : State) (h : Heap) (Lc : List Loc) (E : own_T), E = own_e4 2 (Int32.ofNat c0.1) (Int32.ofNat c1.1) (Int32.ofNat c2.1) (Int32.ofNat cs.1) (Int32.ofNat cr.1) → Stand p l e ({ frames := 0, cells := 1, slots := 3, locals := 0 } : Room) s m #[(.int (1 : Int32)), (.int (Int32.ofNat c0.1)), (.int (Int32.ofNat c1.1)), (.int (Int32.ofNat c2.1)), (.int (Int32.ofNat cs.1)), (.int (Int32.ofNat cr.1))] below meth c T Lc 1 3 → T.heap = h → Fr n0 Lc → n0 ≤ h.size → Keep h0 h [] → W.AI Z h b101 .int 3 E.1 → W.Gl p e below s (Q1b Z c0 c1 c2 cs cr h0 n0) ({ frames := 0, cells := 1, slots := 3, locals := 0 } : Room).cells ({ frames := 0, cells := 1, slots := 3, locals := 0 } : Room).slots T (mkF m 103 #[.val (.int (1 : Int32)), .val (.int (Int32.ofNat c0.1)), .val (.int (Int32.ofNat c1.1)), .val (.int (Int32.ofNat c2.1)), .val (.int (Int32.ofNat cs.1)), .val (.int (Int32.ofNat cr.1)), .val (.ref b101), .val (.int E.2)] []) := by
    intro T h Lc E hE X e1 N Zh K Ab
    refine W.s1 (mkF m 105 #[.val (.int (1 : Int32)), .val (.int (Int32.ofNat c0.1)), .val (.int (Int32.ofNat c1.1)), .val (.int (Int32.ofNat c2.1)), .val (.int (Int32.ofNat cs.1)), .val (.int (Int32.ofNat cr.1)), .val (.ref b101), .val (.int E.2)] [(.ref b101)]) (fun _ kx_ => XS.aload X.here hx rfl (hb hby d1_103) rfl rfl kx_) ?_
    exact W.retA X hx hlk Bd.returns rfl rfl rfl (hb hby d1_105) (by show Q1b Z c0 c1 c2 cs cr h0 n0 _ T.heap _; rw [e1]; exact ⟨_, rfl, N, K, sz101, by rw [hE] at Ab; exact Ab⟩) (by decide) (by decide)
  have J82 : ∀ (T : State) (h : Heap) (Lc : List Loc) (E : own_T), E = own_e3 2 (Int32.ofNat c1.1) (Int32.ofNat c2.1) (Int32.ofNat cs.1) (Int32.ofNat cr.1) → Stand p l e ({ frames := 0, cells := 1, slots := 3, locals := 0 } : Room) s m #[(.int (1 : Int32)), (.int (Int32.ofNat c0.1)), (.int (Int32.ofNat c1.1)), (.int (Int32.ofNat c2.1)), (.int (Int32.ofNat cs.1)), (.int (Int32.ofNat cr.1))] below meth c T Lc 1 3 → T.heap = h → Fr n0 Lc → n0 ≤ h.size → Keep h0 h [] → W.AI Z h b101 .int 3 E.1 → W.Gl p e below s (Q1b Z c0 c1 c2 cs cr h0 n0) ({ frames := 0, cells := 1, slots := 3, locals := 0 } : Room).cells ({ frames := 0, cells := 1, slots := 3, locals := 0 } : Room).slots T (mkF m 82 #[.val (.int (1 : Int32)), .val (.int (Int32.ofNat c0.1)), .val (.int (Int32.ofNat c1.1)), .val (.int (Int32.ofNat c2.1)), .val (.int (Int32.ofNat cs.1)), .val (.int (Int32.ofNat cr.1)), .val (.ref b101), .val (.int E.2)] []) := by
    intro T h Lc E hE X e1 N Zh K Ab
    refine W.s1 (mkF m 83 #[.val (.int (1 : Int32)), .val (.int (Int32.ofNat c0.1)), .val (.int (Int32.ofNat c1.1)), .val (.int (Int32.ofNat c2.1)), .val (.int (Int32.ofNat cs.1)), .val (.int (Int32.ofNat cr.1)), .val (.ref b101), .val (.int E.2)] [(.int (Int32.ofNat c0.1))]) (fun _ kx_ => XS.iloadN X.here hx rfl (hb hby d1_82) rfl kx_) ?_
    refine W.s1 (mkF m 84 #[.val (.int (1 : Int32)), .val (.int (Int32.ofNat c0.1)), .val (.int (Int32.ofNat c1.1)), .val (.int (Int32.ofNat c2.1)), .val (.int (Int32.ofNat cs.1)), .val (.int (Int32.ofNat cr.1)), .val (.ref b101), .val (.int E.2)] [(.int (1 : Int32)), (.int (Int32.ofNat c0.1))]) (fun _ kx_ => XS.iloadN X.here hx rfl (hb hby d1_83) rfl kx_) ?_
    refine W.s1 (mkF m 85 #[.val (.int (1 : Int32)), .val (.int (Int32.ofNat c0.1)), .val (.int (Int32.ofNat c1.1)), .val (.int (Int32.ofNat c2.1)), .val (.int (Int32.ofNat cs.1)), .val (.int (Int32.ofNat cr.1)), .val (.ref b101), .val (.int E.2)] [(.int (1 : Int32)), (.int (1 : Int32)), (.int (Int32.ofNat c0.1))]) (fun _ kx_ => XS.iconst X.here hx rfl (hb hby d1_84) kx_) ?_
    refine W.s1 (mkF m 86 #[.val (.int (1 : Int32)), .val (.int (Int32.ofNat c0.1)), .val (.int (Int32.ofNat c1.1)), .val (.int (Int32.ofNat c2.1)), .val (.int (Int32.ofNat cs.1)), .val (.int (Int32.ofNat cr.1)), .val (.ref b101), .val (.int E.2)] [(.int (2 : Int32)), (.int (Int32.ofNat c0.1))]) (fun _ kx_ => XS.iadd X.here hx rfl (hb hby d1_85) rfl kx_) ?_
    refine W.icmp X hx (hb hby d1_86) (pc' := 103) (pc'' := 89) (by decide) (by decide) rfl (fun (c86 : ¬ (Int32.ofNat c0.1) = (2 : Int32)) => ?_) (fun (c86 : (Int32.ofNat c0.1) = (2 : Int32)) => ?_)
    · exact J103 _ _ _ E (by rw [hE]; exact Eq.symm (own_bF (own_p2 c86))) X e1 N Zh K Ab
    · refine W.s1 (mkF m 91 #[.val (.int (1 : Int32)), .val (.int (Int32.ofNat c0.1)), .val (.int (Int32.ofNat c1.1)), .val (.int (Int32.ofNat c2.1)), .val (.int (Int32.ofNat cs.1)), .val (.int (Int32.ofNat cr.1)), .val (.ref b101), .val (.int E.2)] [(.int (Int32.ofNat cs.1))]) (fun _ kx_ => XS.iload X.here hx rfl (hb hby d1_89) rfl kx_) ?_
      refine W.ifc X hx (hb hby d1_91) (pc' := 103) (pc'' := 94) (by decide) (by decide) rfl (fun (c91 : (Int32.ofNat cs.1) = (0 : Int32)) => ?_) (fun (c91 : ¬ (Int32.ofNat cs.1) = (0 : Int32)) => ?_)
      · exact J103 _ _ _ E (by rw [hE]; exact Eq.symm (own_bF (own_p3 c91))) X e1 N Zh K Ab
      · refine W.s1 (mkF m 96 #[.val (.int (1 : Int32)), .val (.int (Int32.ofNat c0.1)), .val (.int (Int32.ofNat c1.1)), .val (.int (Int32.ofNat c2.1)), .val (.int (Int32.ofNat cs.1)), .val (.int (Int32.ofNat cr.1)), .val (.ref b101), .val (.int E.2)] [(.ref b101)]) (fun _ kx_ => XS.aload X.here hx rfl (hb hby d1_94) rfl rfl kx_) ?_
        refine W.s1 (mkF m 98 #[.val (.int (1 : Int32)), .val (.int (Int32.ofNat c0.1)), .val (.int (Int32.ofNat c1.1)), .val (.int (Int32.ofNat c2.1)), .val (.int (Int32.ofNat cs.1)), .val (.int (Int32.ofNat cr.1)), .val (.ref b101), .val (.int E.2)] [(.int E.2), (.ref b101)]) (fun _ kx_ => XS.iload X.here hx rfl (hb hby d1_96) rfl kx_) ?_
        refine W.s1 (mkF m 99 #[.val (.int (1 : Int32)), .val (.int (Int32.ofNat c0.1)), .val (.int (Int32.ofNat c1.1)), .val (.int (Int32.ofNat c2.1)), .val (.int (Int32.ofNat cs.1)), .val (.int (Int32.ofNat cr.1)), .val (.ref b101), .val (.int E.2)] [(.int (0 : Int32)), (.int E.2), (.ref b101)]) (fun _ kx_ => XS.iconst X.here hx rfl (hb hby d1_98) kx_) ?_
        have hok := own_okE (x := E.2) (n := 3) (by rw [hE]; exact own_w4_2 c0 c1 c2 cs cr c91)
        refine W.sti X hx hZ e1 Ab (own_ix E.2) hok.1 hok.2 N ge101 (hb hby d1_99) (pc' := 100) rfl (fun T105 h105 L105 X105 e105 W105 fw105 N105 => ?_)
        have Z105 : n0 ≤ h105.size := Nat.le_trans Zh (Keep.of_wr W105).1
        have K105 : Keep h0 h105 [] := K.wr W105 (Or.inr sz101)
        refine W.s1 (mkF m 103 #[.val (.int (1 : Int32)), .val (.int (Int32.ofNat c0.1)), .val (.int (Int32.ofNat c1.1)), .val (.int (Int32.ofNat c2.1)), .val (.int (Int32.ofNat cs.1)), .val (.int (Int32.ofNat cr.1)), .val (.ref b101), .val (.int (E.2 + (1 : Int32)))] []) (fun _ kx_ => XS.iinc X105.here hx rfl (hb hby d1_100) rfl (l' := #[.val (.int (1 : Int32)), .val (.int (Int32.ofNat c0.1)), .val (.int (Int32.ofNat c1.1)), .val (.int (Int32.ofNat c2.1)), .val (.int (Int32.ofNat cs.1)), .val (.int (Int32.ofNat cr.1)), .val (.ref b101), .val (.int (E.2 + (1 : Int32)))]) rfl kx_) ?_
        exact J103 _ _ _ (W.up E.1 (own_ix E.2) (0 : Int32), E.2 + 1) (by rw [hE]; exact Eq.symm (own_bT (own_p1 c86 c91))) X105 e105 N105 Z105 K105 fw105
  have J60 : ∀ (T : State) (h : Heap) (Lc : List Loc) (E : own_T), E = own_e2 2 (Int32.ofNat c2.1) (Int32.ofNat cs.1) (Int32.ofNat cr.1) → Stand p l e ({ frames := 0, cells := 1, slots := 3, locals := 0 } : Room) s m #[(.int (1 : Int32)), (.int (Int32.ofNat c0.1)), (.int (Int32.ofNat c1.1)), (.int (Int32.ofNat c2.1)), (.int (Int32.ofNat cs.1)), (.int (Int32.ofNat cr.1))] below meth c T Lc 1 3 → T.heap = h → Fr n0 Lc → n0 ≤ h.size → Keep h0 h [] → W.AI Z h b101 .int 3 E.1 → W.Gl p e below s (Q1b Z c0 c1 c2 cs cr h0 n0) ({ frames := 0, cells := 1, slots := 3, locals := 0 } : Room).cells ({ frames := 0, cells := 1, slots := 3, locals := 0 } : Room).slots T (mkF m 60 #[.val (.int (1 : Int32)), .val (.int (Int32.ofNat c0.1)), .val (.int (Int32.ofNat c1.1)), .val (.int (Int32.ofNat c2.1)), .val (.int (Int32.ofNat cs.1)), .val (.int (Int32.ofNat cr.1)), .val (.ref b101), .val (.int E.2)] []) := by
    intro T h Lc E hE X e1 N Zh K Ab
    refine W.s1 (mkF m 61 #[.val (.int (1 : Int32)), .val (.int (Int32.ofNat c0.1)), .val (.int (Int32.ofNat c1.1)), .val (.int (Int32.ofNat c2.1)), .val (.int (Int32.ofNat cs.1)), .val (.int (Int32.ofNat cr.1)), .val (.ref b101), .val (.int E.2)] [(.int (Int32.ofNat c1.1))]) (fun _ kx_ => XS.iloadN X.here hx rfl (hb hby d1_60) rfl kx_) ?_
    refine W.s1 (mkF m 62 #[.val (.int (1 : Int32)), .val (.int (Int32.ofNat c0.1)), .val (.int (Int32.ofNat c1.1)), .val (.int (Int32.ofNat c2.1)), .val (.int (Int32.ofNat cs.1)), .val (.int (Int32.ofNat cr.1)), .val (.ref b101), .val (.int E.2)] [(.int (1 : Int32)), (.int (Int32.ofNat c1.1))]) (fun _ kx_ => XS.iloadN X.here hx rfl (hb hby d1_61) rfl kx_) ?_
    refine W.s1 (mkF m 63 #[.val (.int (1 : Int32)), .val (.int (Int32.ofNat c0.1)), .val (.int (Int32.ofNat c1.1)), .val (.int (Int32.ofNat c2.1)), .val (.int (Int32.ofNat cs.1)), .val (.int (Int32.ofNat cr.1)), .val (.ref b101), .val (.int E.2)] [(.int (1 : Int32)), (.int (1 : Int32)), (.int (Int32.ofNat c1.1))]) (fun _ kx_ => XS.iconst X.here hx rfl (hb hby d1_62) kx_) ?_
    refine W.s1 (mkF m 64 #[.val (.int (1 : Int32)), .val (.int (Int32.ofNat c0.1)), .val (.int (Int32.ofNat c1.1)), .val (.int (Int32.ofNat c2.1)), .val (.int (Int32.ofNat cs.1)), .val (.int (Int32.ofNat cr.1)), .val (.ref b101), .val (.int E.2)] [(.int (2 : Int32)), (.int (Int32.ofNat c1.1))]) (fun _ kx_ => XS.iadd X.here hx rfl (hb hby d1_63) rfl kx_) ?_
    refine W.icmp X hx (hb hby d1_64) (pc' := 82) (pc'' := 67) (by decide) (by decide) rfl (fun (c64 : ¬ (Int32.ofNat c1.1) = (2 : Int32)) => ?_) (fun (c64 : (Int32.ofNat c1.1) = (2 : Int32)) => ?_)
    · exact J82 _ _ _ E (by rw [hE]; exact Eq.symm (own_bF (own_p2 c64))) X e1 N Zh K Ab
    · refine W.s1 (mkF m 69 #[.val (.int (1 : Int32)), .val (.int (Int32.ofNat c0.1)), .val (.int (Int32.ofNat c1.1)), .val (.int (Int32.ofNat c2.1)), .val (.int (Int32.ofNat cs.1)), .val (.int (Int32.ofNat cr.1)), .val (.ref b101), .val (.int E.2)] [(.int (Int32.ofNat cs.1))]) (fun _ kx_ => XS.iload X.here hx rfl (hb hby d1_67) rfl kx_) ?_
      refine W.s1 (mkF m 70 #[.val (.int (1 : Int32)), .val (.int (Int32.ofNat c0.1)), .val (.int (Int32.ofNat c1.1)), .val (.int (Int32.ofNat c2.1)), .val (.int (Int32.ofNat cs.1)), .val (.int (Int32.ofNat cr.1)), .val (.ref b101), .val (.int E.2)] [(.int (1 : Int32)), (.int (Int32.ofNat cs.1))]) (fun _ kx_ => XS.iconst X.here hx rfl (hb hby d1_69) kx_) ?_
      refine W.icmp X hx (hb hby d1_70) (pc' := 82) (pc'' := 73) (by decide) (by decide) rfl (fun (c70 : (Int32.ofNat cs.1) = (1 : Int32)) => ?_) (fun (c70 : ¬ (Int32.ofNat cs.1) = (1 : Int32)) => ?_)
      · exact J82 _ _ _ E (by rw [hE]; exact Eq.symm (own_bF (own_p3 c70))) X e1 N Zh K Ab
      · refine W.s1 (mkF m 75 #[.val (.int (1 : Int32)), .val (.int (Int32.ofNat c0.1)), .val (.int (Int32.ofNat c1.1)), .val (.int (Int32.ofNat c2.1)), .val (.int (Int32.ofNat cs.1)), .val (.int (Int32.ofNat cr.1)), .val (.ref b101), .val (.int E.2)] [(.ref b101)]) (fun _ kx_ => XS.aload X.here hx rfl (hb hby d1_73) rfl rfl kx_) ?_
        refine W.s1 (mkF m 77 #[.val (.int (1 : Int32)), .val (.int (Int32.ofNat c0.1)), .val (.int (Int32.ofNat c1.1)), .val (.int (Int32.ofNat c2.1)), .val (.int (Int32.ofNat cs.1)), .val (.int (Int32.ofNat cr.1)), .val (.ref b101), .val (.int E.2)] [(.int E.2), (.ref b101)]) (fun _ kx_ => XS.iload X.here hx rfl (hb hby d1_75) rfl kx_) ?_
        refine W.s1 (mkF m 78 #[.val (.int (1 : Int32)), .val (.int (Int32.ofNat c0.1)), .val (.int (Int32.ofNat c1.1)), .val (.int (Int32.ofNat c2.1)), .val (.int (Int32.ofNat cs.1)), .val (.int (Int32.ofNat cr.1)), .val (.ref b101), .val (.int E.2)] [(.int (1 : Int32)), (.int E.2), (.ref b101)]) (fun _ kx_ => XS.iconst X.here hx rfl (hb hby d1_77) kx_) ?_
        have hok := own_okE (x := E.2) (n := 3) (by rw [hE]; exact (own_w3_2 c2 cs cr))
        refine W.sti X hx hZ e1 Ab (own_ix E.2) hok.1 hok.2 N ge101 (hb hby d1_78) (pc' := 79) rfl (fun T106 h106 L106 X106 e106 W106 fw106 N106 => ?_)
        have Z106 : n0 ≤ h106.size := Nat.le_trans Zh (Keep.of_wr W106).1
        have K106 : Keep h0 h106 [] := K.wr W106 (Or.inr sz101)
        refine W.s1 (mkF m 82 #[.val (.int (1 : Int32)), .val (.int (Int32.ofNat c0.1)), .val (.int (Int32.ofNat c1.1)), .val (.int (Int32.ofNat c2.1)), .val (.int (Int32.ofNat cs.1)), .val (.int (Int32.ofNat cr.1)), .val (.ref b101), .val (.int (E.2 + (1 : Int32)))] []) (fun _ kx_ => XS.iinc X106.here hx rfl (hb hby d1_79) rfl (l' := #[.val (.int (1 : Int32)), .val (.int (Int32.ofNat c0.1)), .val (.int (Int32.ofNat c1.1)), .val (.int (Int32.ofNat c2.1)), .val (.int (Int32.ofNat cs.1)), .val (.int (Int32.ofNat cr.1)), .val (.ref b101), .val (.int (E.2 + (1 : Int32)))]) rfl kx_) ?_
        exact J82 _ _ _ (W.up E.1 (own_ix E.2) (1 : Int32), E.2 + 1) (by rw [hE]; exact Eq.symm (own_bT (own_p1 c64 c70))) X106 e106 N106 Z106 K106 fw106
  have J38 : ∀ (T : State) (h : Heap) (Lc : List Loc) (E : own_T), E = own_e1 2 (Int32.ofNat cs.1) (Int32.ofNat cr.1) → Stand p l e ({ frames := 0, cells := 1, slots := 3, locals := 0 } : Room) s m #[(.int (1 : Int32)), (.int (Int32.ofNat c0.1)), (.int (Int32.ofNat c1.1)), (.int (Int32.ofNat c2.1)), (.int (Int32.ofNat cs.1)), (.int (Int32.ofNat cr.1))] below meth c T Lc 1 3 → T.heap = h → Fr n0 Lc → n0 ≤ h.size → Keep h0 h [] → W.AI Z h b101 .int 3 E.1 → W.Gl p e below s (Q1b Z c0 c1 c2 cs cr h0 n0) ({ frames := 0, cells := 1, slots := 3, locals := 0 } : Room).cells ({ frames := 0, cells := 1, slots := 3, locals := 0 } : Room).slots T (mkF m 38 #[.val (.int (1 : Int32)), .val (.int (Int32.ofNat c0.1)), .val (.int (Int32.ofNat c1.1)), .val (.int (Int32.ofNat c2.1)), .val (.int (Int32.ofNat cs.1)), .val (.int (Int32.ofNat cr.1)), .val (.ref b101), .val (.int E.2)] []) := by
    intro T h Lc E hE X e1 N Zh K Ab
    refine W.s1 (mkF m 39 #[.val (.int (1 : Int32)), .val (.int (Int32.ofNat c0.1)), .val (.int (Int32.ofNat c1.1)), .val (.int (Int32.ofNat c2.1)), .val (.int (Int32.ofNat cs.1)), .val (.int (Int32.ofNat cr.1)), .val (.ref b101), .val (.int E.2)] [(.int (Int32.ofNat c2.1))]) (fun _ kx_ => XS.iloadN X.here hx rfl (hb hby d1_38) rfl kx_) ?_
    refine W.s1 (mkF m 40 #[.val (.int (1 : Int32)), .val (.int (Int32.ofNat c0.1)), .val (.int (Int32.ofNat c1.1)), .val (.int (Int32.ofNat c2.1)), .val (.int (Int32.ofNat cs.1)), .val (.int (Int32.ofNat cr.1)), .val (.ref b101), .val (.int E.2)] [(.int (1 : Int32)), (.int (Int32.ofNat c2.1))]) (fun _ kx_ => XS.iloadN X.here hx rfl (hb hby d1_39) rfl kx_) ?_
    refine W.s1 (mkF m 41 #[.val (.int (1 : Int32)), .val (.int (Int32.ofNat c0.1)), .val (.int (Int32.ofNat c1.1)), .val (.int (Int32.ofNat c2.1)), .val (.int (Int32.ofNat cs.1)), .val (.int (Int32.ofNat cr.1)), .val (.ref b101), .val (.int E.2)] [(.int (1 : Int32)), (.int (1 : Int32)), (.int (Int32.ofNat c2.1))]) (fun _ kx_ => XS.iconst X.here hx rfl (hb hby d1_40) kx_) ?_
    refine W.s1 (mkF m 42 #[.val (.int (1 : Int32)), .val (.int (Int32.ofNat c0.1)), .val (.int (Int32.ofNat c1.1)), .val (.int (Int32.ofNat c2.1)), .val (.int (Int32.ofNat cs.1)), .val (.int (Int32.ofNat cr.1)), .val (.ref b101), .val (.int E.2)] [(.int (2 : Int32)), (.int (Int32.ofNat c2.1))]) (fun _ kx_ => XS.iadd X.here hx rfl (hb hby d1_41) rfl kx_) ?_
    refine W.icmp X hx (hb hby d1_42) (pc' := 60) (pc'' := 45) (by decide) (by decide) rfl (fun (c42 : ¬ (Int32.ofNat c2.1) = (2 : Int32)) => ?_) (fun (c42 : (Int32.ofNat c2.1) = (2 : Int32)) => ?_)
    · exact J60 _ _ _ E (by rw [hE]; exact Eq.symm (own_bF (own_p2 c42))) X e1 N Zh K Ab
    · refine W.s1 (mkF m 47 #[.val (.int (1 : Int32)), .val (.int (Int32.ofNat c0.1)), .val (.int (Int32.ofNat c1.1)), .val (.int (Int32.ofNat c2.1)), .val (.int (Int32.ofNat cs.1)), .val (.int (Int32.ofNat cr.1)), .val (.ref b101), .val (.int E.2)] [(.int (Int32.ofNat cs.1))]) (fun _ kx_ => XS.iload X.here hx rfl (hb hby d1_45) rfl kx_) ?_
      refine W.s1 (mkF m 48 #[.val (.int (1 : Int32)), .val (.int (Int32.ofNat c0.1)), .val (.int (Int32.ofNat c1.1)), .val (.int (Int32.ofNat c2.1)), .val (.int (Int32.ofNat cs.1)), .val (.int (Int32.ofNat cr.1)), .val (.ref b101), .val (.int E.2)] [(.int (2 : Int32)), (.int (Int32.ofNat cs.1))]) (fun _ kx_ => XS.iconst X.here hx rfl (hb hby d1_47) kx_) ?_
      refine W.icmp X hx (hb hby d1_48) (pc' := 60) (pc'' := 51) (by decide) (by decide) rfl (fun (c48 : (Int32.ofNat cs.1) = (2 : Int32)) => ?_) (fun (c48 : ¬ (Int32.ofNat cs.1) = (2 : Int32)) => ?_)
      · exact J60 _ _ _ E (by rw [hE]; exact Eq.symm (own_bF (own_p3 c48))) X e1 N Zh K Ab
      · refine W.s1 (mkF m 53 #[.val (.int (1 : Int32)), .val (.int (Int32.ofNat c0.1)), .val (.int (Int32.ofNat c1.1)), .val (.int (Int32.ofNat c2.1)), .val (.int (Int32.ofNat cs.1)), .val (.int (Int32.ofNat cr.1)), .val (.ref b101), .val (.int E.2)] [(.ref b101)]) (fun _ kx_ => XS.aload X.here hx rfl (hb hby d1_51) rfl rfl kx_) ?_
        refine W.s1 (mkF m 55 #[.val (.int (1 : Int32)), .val (.int (Int32.ofNat c0.1)), .val (.int (Int32.ofNat c1.1)), .val (.int (Int32.ofNat c2.1)), .val (.int (Int32.ofNat cs.1)), .val (.int (Int32.ofNat cr.1)), .val (.ref b101), .val (.int E.2)] [(.int E.2), (.ref b101)]) (fun _ kx_ => XS.iload X.here hx rfl (hb hby d1_53) rfl kx_) ?_
        refine W.s1 (mkF m 56 #[.val (.int (1 : Int32)), .val (.int (Int32.ofNat c0.1)), .val (.int (Int32.ofNat c1.1)), .val (.int (Int32.ofNat c2.1)), .val (.int (Int32.ofNat cs.1)), .val (.int (Int32.ofNat cr.1)), .val (.ref b101), .val (.int E.2)] [(.int (2 : Int32)), (.int E.2), (.ref b101)]) (fun _ kx_ => XS.iconst X.here hx rfl (hb hby d1_55) kx_) ?_
        have hok := own_okE (x := E.2) (n := 3) (by rw [hE]; exact (own_w2_2 cs cr))
        refine W.sti X hx hZ e1 Ab (own_ix E.2) hok.1 hok.2 N ge101 (hb hby d1_56) (pc' := 57) rfl (fun T107 h107 L107 X107 e107 W107 fw107 N107 => ?_)
        have Z107 : n0 ≤ h107.size := Nat.le_trans Zh (Keep.of_wr W107).1
        have K107 : Keep h0 h107 [] := K.wr W107 (Or.inr sz101)
        refine W.s1 (mkF m 60 #[.val (.int (1 : Int32)), .val (.int (Int32.ofNat c0.1)), .val (.int (Int32.ofNat c1.1)), .val (.int (Int32.ofNat c2.1)), .val (.int (Int32.ofNat cs.1)), .val (.int (Int32.ofNat cr.1)), .val (.ref b101), .val (.int (E.2 + (1 : Int32)))] []) (fun _ kx_ => XS.iinc X107.here hx rfl (hb hby d1_57) rfl (l' := #[.val (.int (1 : Int32)), .val (.int (Int32.ofNat c0.1)), .val (.int (Int32.ofNat c1.1)), .val (.int (Int32.ofNat c2.1)), .val (.int (Int32.ofNat cs.1)), .val (.int (Int32.ofNat cr.1)), .val (.ref b101), .val (.int (E.2 + (1 : Int32)))]) rfl kx_) ?_
        exact J60 _ _ _ (W.up E.1 (own_ix E.2) (2 : Int32), E.2 + 1) (by rw [hE]; exact Eq.symm (own_bT (own_p1 c42 c48))) X107 e107 N107 Z107 K107 fw107
  have J20 : ∀ (T : State) (h : Heap) (Lc : List Loc) (E : own_T), E = own_e0 → Stand p l e ({ frames := 0, cells := 1, slots := 3, locals := 0 } : Room) s m #[(.int (1 : Int32)), (.int (Int32.ofNat c0.1)), (.int (Int32.ofNat c1.1)), (.int (Int32.ofNat c2.1)), (.int (Int32.ofNat cs.1)), (.int (Int32.ofNat cr.1))] below meth c T Lc 1 3 → T.heap = h → Fr n0 Lc → n0 ≤ h.size → Keep h0 h [] → W.AI Z h b101 .int 3 E.1 → W.Gl p e below s (Q1b Z c0 c1 c2 cs cr h0 n0) ({ frames := 0, cells := 1, slots := 3, locals := 0 } : Room).cells ({ frames := 0, cells := 1, slots := 3, locals := 0 } : Room).slots T (mkF m 20 #[.val (.int (1 : Int32)), .val (.int (Int32.ofNat c0.1)), .val (.int (Int32.ofNat c1.1)), .val (.int (Int32.ofNat c2.1)), .val (.int (Int32.ofNat cs.1)), .val (.int (Int32.ofNat cr.1)), .val (.ref b101), .val (.int E.2)] []) := by
    intro T h Lc E hE X e1 N Zh K Ab
    refine W.s1 (mkF m 22 #[.val (.int (1 : Int32)), .val (.int (Int32.ofNat c0.1)), .val (.int (Int32.ofNat c1.1)), .val (.int (Int32.ofNat c2.1)), .val (.int (Int32.ofNat cs.1)), .val (.int (Int32.ofNat cr.1)), .val (.ref b101), .val (.int E.2)] [(.int (Int32.ofNat cr.1))]) (fun _ kx_ => XS.iload X.here hx rfl (hb hby d1_20) rfl kx_) ?_
    refine W.s1 (mkF m 23 #[.val (.int (1 : Int32)), .val (.int (Int32.ofNat c0.1)), .val (.int (Int32.ofNat c1.1)), .val (.int (Int32.ofNat c2.1)), .val (.int (Int32.ofNat cs.1)), .val (.int (Int32.ofNat cr.1)), .val (.ref b101), .val (.int E.2)] [(.int (1 : Int32)), (.int (Int32.ofNat cr.1))]) (fun _ kx_ => XS.iloadN X.here hx rfl (hb hby d1_22) rfl kx_) ?_
    refine W.s1 (mkF m 24 #[.val (.int (1 : Int32)), .val (.int (Int32.ofNat c0.1)), .val (.int (Int32.ofNat c1.1)), .val (.int (Int32.ofNat c2.1)), .val (.int (Int32.ofNat cs.1)), .val (.int (Int32.ofNat cr.1)), .val (.ref b101), .val (.int E.2)] [(.int (1 : Int32)), (.int (1 : Int32)), (.int (Int32.ofNat cr.1))]) (fun _ kx_ => XS.iconst X.here hx rfl (hb hby d1_23) kx_) ?_
    refine W.s1 (mkF m 25 #[.val (.int (1 : Int32)), .val (.int (Int32.ofNat c0.1)), .val (.int (Int32.ofNat c1.1)), .val (.int (Int32.ofNat c2.1)), .val (.int (Int32.ofNat cs.1)), .val (.int (Int32.ofNat cr.1)), .val (.ref b101), .val (.int E.2)] [(.int (2 : Int32)), (.int (Int32.ofNat cr.1))]) (fun _ kx_ => XS.iadd X.here hx rfl (hb hby d1_24) rfl kx_) ?_
    refine W.icmp X hx (hb hby d1_25) (pc' := 38) (pc'' := 28) (by decide) (by decide) rfl (fun (c25 : ¬ (Int32.ofNat cr.1) = (2 : Int32)) => ?_) (fun (c25 : (Int32.ofNat cr.1) = (2 : Int32)) => ?_)
    · exact J38 _ _ _ E (by rw [hE]; exact Eq.symm (own_bF (own_p5 c25))) X e1 N Zh K Ab
    · refine W.s1 (mkF m 30 #[.val (.int (1 : Int32)), .val (.int (Int32.ofNat c0.1)), .val (.int (Int32.ofNat c1.1)), .val (.int (Int32.ofNat c2.1)), .val (.int (Int32.ofNat cs.1)), .val (.int (Int32.ofNat cr.1)), .val (.ref b101), .val (.int E.2)] [(.ref b101)]) (fun _ kx_ => XS.aload X.here hx rfl (hb hby d1_28) rfl rfl kx_) ?_
      refine W.s1 (mkF m 32 #[.val (.int (1 : Int32)), .val (.int (Int32.ofNat c0.1)), .val (.int (Int32.ofNat c1.1)), .val (.int (Int32.ofNat c2.1)), .val (.int (Int32.ofNat cs.1)), .val (.int (Int32.ofNat cr.1)), .val (.ref b101), .val (.int E.2)] [(.int E.2), (.ref b101)]) (fun _ kx_ => XS.iload X.here hx rfl (hb hby d1_30) rfl kx_) ?_
      refine W.s1 (mkF m 34 #[.val (.int (1 : Int32)), .val (.int (Int32.ofNat c0.1)), .val (.int (Int32.ofNat c1.1)), .val (.int (Int32.ofNat c2.1)), .val (.int (Int32.ofNat cs.1)), .val (.int (Int32.ofNat cr.1)), .val (.ref b101), .val (.int E.2)] [(.int (Int32.ofNat cs.1)), (.int E.2), (.ref b101)]) (fun _ kx_ => XS.iload X.here hx rfl (hb hby d1_32) rfl kx_) ?_
      have hok := own_okE (x := E.2) (n := 3) (by rw [hE]; exact (own_w1_2 cs cr))
      refine W.sti X hx hZ e1 Ab (own_ix E.2) hok.1 hok.2 N ge101 (hb hby d1_34) (pc' := 35) rfl (fun T108 h108 L108 X108 e108 W108 fw108 N108 => ?_)
      have Z108 : n0 ≤ h108.size := Nat.le_trans Zh (Keep.of_wr W108).1
      have K108 : Keep h0 h108 [] := K.wr W108 (Or.inr sz101)
      refine W.s1 (mkF m 38 #[.val (.int (1 : Int32)), .val (.int (Int32.ofNat c0.1)), .val (.int (Int32.ofNat c1.1)), .val (.int (Int32.ofNat c2.1)), .val (.int (Int32.ofNat cs.1)), .val (.int (Int32.ofNat cr.1)), .val (.ref b101), .val (.int (E.2 + (1 : Int32)))] []) (fun _ kx_ => XS.iinc X108.here hx rfl (hb hby d1_35) rfl (l' := #[.val (.int (1 : Int32)), .val (.int (Int32.ofNat c0.1)), .val (.int (Int32.ofNat c1.1)), .val (.int (Int32.ofNat c2.1)), .val (.int (Int32.ofNat cs.1)), .val (.int (Int32.ofNat cr.1)), .val (.ref b101), .val (.int (E.2 + (1 : Int32)))]) rfl kx_) ?_
      exact J38 _ _ _ (W.up E.1 (own_ix E.2) (Int32.ofNat cs.1), E.2 + 1) (by rw [hE]; exact Eq.symm (own_bT (decide_eq_true c25))) X108 e108 N108 Z108 K108 fw108
  exact J20 _ _ _ own_e0 rfl X104 e104 N104 Z104 K104 fw104
theorem pn_1 : plainName "java/util/Arrays" = true := by first | (simp [plainName, overriddenIn]; done) | decide +kernel
theorem ef_4 (m : MethodId) (x0 : Addr) (x1 : Int32) : entryFrame m #[(.ref x0), (.int x1)] 4 = mkF m 0 #[.val (.ref x0), .val (.int x1), .unset, .unset] [] := by first | (simp [entryFrame, mkF, argsToLocals, Value.category]; done) | rfl
theorem d4_0 : decode jdk_65_method_103_code 0 = .ok (.iconst 0, 1) := by decide +kernel
theorem d4_1 : decode jdk_65_method_103_code 1 = .ok (.istore_n 2, 1) := by decide +kernel
theorem d4_2 : decode jdk_65_method_103_code 2 = .ok (.aload_n 0, 1) := by decide +kernel
theorem d4_3 : decode jdk_65_method_103_code 3 = .ok (.arraylength, 1) := by decide +kernel
theorem d4_4 : decode jdk_65_method_103_code 4 = .ok (.istore_n 3, 1) := by decide +kernel
theorem d4_5 : decode jdk_65_method_103_code 5 = .ok (.iload_n 2, 1) := by decide +kernel
theorem d4_6 : decode jdk_65_method_103_code 6 = .ok (.iload_n 3, 1) := by decide +kernel
theorem d4_7 : decode jdk_65_method_103_code 7 = .ok (.if_icmp .ge 13, 3) := by decide +kernel
theorem d4_20 : decode jdk_65_method_103_code 20 = .ok (.return_, 1) := by decide +kernel
theorem d4_10 : decode jdk_65_method_103_code 10 = .ok (.aload_n 0, 1) := by decide +kernel
theorem d4_11 : decode jdk_65_method_103_code 11 = .ok (.iload_n 2, 1) := by decide +kernel
theorem d4_12 : decode jdk_65_method_103_code 12 = .ok (.iload_n 1, 1) := by decide +kernel
theorem d4_13 : decode jdk_65_method_103_code 13 = .ok (.iastore, 1) := by decide +kernel
theorem d4_14 : decode jdk_65_method_103_code 14 = .ok (.iinc 2 1, 3) := by decide +kernel
theorem d4_17 : decode jdk_65_method_103_code 17 = .ok (.goto (-12), 3) := by decide +kernel
def Q4 (Z : State) (aa : Addr) (xv : Int32) (n : Nat) (xz : Int32) (f0 : Nat → Int32) (h0 : Heap) (n0 : Nat) (v : Option Value) (h : Heap) (L : List Loc) : Prop := v = none ∧ Fr n0 L ∧ Keep h0 h [aa] ∧ W.AI Z h aa .int n (fun _ => xv)
set_option maxRecDepth 65536 in
set_option maxHeartbeats 40000000 in
theorem rm4 (l : Launch) (Z : State) (a0 : Array Value) (hw : ∀ d ∈ tables_1, d.before a0 Z = true) (ws : List Jvm.Cond) (aa : Addr) (xv : Int32) (n : Nat) (xz : Int32) (f0 : Nat → Int32) (h0 : Heap) (n0 : Nat) (Z0 : n0 ≤ h0.size) (hz : xz.toInt = n) (A0 : W.AI Z h0 aa .int n f0) (ga : n0 ≤ aa) :
    MetFree l (⟨"java/util/Arrays", "fill", "([II)V"⟩ : MethodName) (head1 (Jvm.Cond.code (⟨"java/util/Arrays", "fill", "([II)V"⟩ : MethodName) jdk_65_method_103_code 4 none :: ws) ({ frames := 0, cells := 0, slots := 0, locals := 0 } : Room)) (fun a U => a = #[(.ref aa), (.int xv)] ∧ Z.Warmed39 U.vm ∧ U.heap = h0) (fun _ _ _ _ _ => True) (fun _ U o U' => ∃ v L, o = .returned v ∧ Q4 Z aa xv n xz f0 h0 n0 v U'.heap L ∧ FrameEnd U o U' L ({ frames := 0, cells := 0, slots := 0, locals := 0 } : Room).cells ({ frames := 0, cells := 0, slots := 0, locals := 0 } : Room).slots) := by
  refine MetFree.of_bodySF (plainFor_of_name pn_1) hisR ?_
  intro p e s m args below meth c s₁ Bd hml0 hP hK
  obtain ⟨rfl, hZ, hh⟩ := hP
  have hx := Bd.exec
  have hby := Bd.bytes
  have hml : c.maxLocals = 4 := hml0
  have hown : s.vm.findClass "java/util/Arrays" = some m.cls := findClass_of_methodNamed Bd.named
  have hnm := (name_of_methodNamed Bd.named Bd.method).1
  have hlk : meth.locks = false := BodyLoose.notSynchronized Bd
  have X0 : Stand p l e ({ frames := 0, cells := 0, slots := 0, locals := 0 } : Room) s m #[(.ref aa), (.int xv)] below meth c s₁ [] 0 0 := Stand.of_body Bd
  have e0 : s₁.heap = h0 := by rw [← hh, Bd.state]; rfl
  have N0 := Fr.nil n0
  show W.Gl p e below s (Q4 Z aa xv n xz f0 h0 n0) ({ frames := 0, cells := 0, slots := 0, locals := 0 } : Room).cells ({ frames := 0, cells := 0, slots := 0, locals := 0 } : Room).slots s₁ (entryFrame m #[(.ref aa), (.int xv)] 4)
  refine W.cast (ef_4 m aa xv) ?_
  have K0 : Keep h0 h0 [aa] := Keep.refl h0 [aa]
  refine W.s1 (mkF m 1 #[.val (.ref aa), .val (.int xv), .unset, .unset] [(.int (0 : Int32))]) (fun _ kx_ => XS.iconst X0.here hx rfl (hb hby d4_0) kx_) ?_
  refine W.s1 (mkF m 2 #[.val (.ref aa), .val (.int xv), .val (.int (0 : Int32)), .unset] []) (fun _ kx_ => XS.istoreN X0.here hx rfl (hb hby d4_1) rfl (l' := #[.val (.ref aa), .val (.int xv), .val (.int (0 : Int32)), .unset]) rfl kx_) ?_
  refine W.s1 (mkF m 3 #[.val (.ref aa), .val (.int xv), .val (.int (0 : Int32)), .unset] [(.ref aa)]) (fun _ kx_ => XS.aloadN X0.here hx rfl (hb hby d4_2) rfl rfl kx_) ?_
  refine W.alen X0 hx hZ e0 A0 (z := xz) hz (hb hby d4_3) (pc' := 4) rfl ?_
  refine W.s1 (mkF m 5 #[.val (.ref aa), .val (.int xv), .val (.int (0 : Int32)), .val (.int xz)] []) (fun _ kx_ => XS.istoreN X0.here hx rfl (hb hby d4_4) rfl (l' := #[.val (.ref aa), .val (.int xv), .val (.int (0 : Int32)), .val (.int xz)]) rfl kx_) ?_
  have loop : ∀ (q j : Nat) (i : Int32) (T : State) (h : Heap) (Lc : List Loc) (f : Nat → Int32), q + j = n → i.toInt = j → Stand p l e ({ frames := 0, cells := 0, slots := 0, locals := 0 } : Room) s m #[(.ref aa), (.int xv)] below meth c T Lc 0 0 → T.heap = h → Fr n0 Lc → n0 ≤ h.size → Keep h0 h [aa] → W.AI Z h aa .int n f → (∀ k, k < j → f k = xv) → W.Gl p e below s (Q4 Z aa xv n xz f0 h0 n0) ({ frames := 0, cells := 0, slots := 0, locals := 0 } : Room).cells ({ frames := 0, cells := 0, slots := 0, locals := 0 } : Room).slots T (mkF m 5 #[.val (.ref aa), .val (.int xv), .val (.int i), .val (.int xz)] []) := by
    intro q
    induction q with
    | zero =>
      intro j i T h Lc f hq hi X e1 N Zh K Aa hf
      refine W.s1 (mkF m 6 #[.val (.ref aa), .val (.int xv), .val (.int i), .val (.int xz)] [(.int i)]) (fun _ kx_ => XS.iloadN X.here hx rfl (hb hby d4_5) rfl kx_) ?_
      refine W.s1 (mkF m 7 #[.val (.ref aa), .val (.int xv), .val (.int i), .val (.int xz)] [(.int xz), (.int i)]) (fun _ kx_ => XS.iloadN X.here hx rfl (hb hby d4_6) rfl kx_) ?_
      refine W.icmp X hx (hb hby d4_7) (pc' := 20) (pc'' := 10) (by decide) (by decide) rfl (fun (c7 : ¬ i < xz) => ?_) (fun (c7 : i < xz) => ?_)
      · exact W.ret0 X hx hlk Bd.returns (hb hby d4_20) (by show Q4 Z aa xv n xz f0 h0 n0 _ T.heap _; rw [e1]; exact ⟨rfl, N, K, Aa.congr fun k hk => (hf k (by omega)).symm⟩) (by decide) (by decide)
      · exact absurd c7 (by rw [Int32.lt_iff_toInt_lt]; omega)
    | succ q ih =>
      intro j i T h Lc f hq hi X e1 N Zh K Aa hf
      refine W.s1 (mkF m 6 #[.val (.ref aa), .val (.int xv), .val (.int i), .val (.int xz)] [(.int i)]) (fun _ kx_ => XS.iloadN X.here hx rfl (hb hby d4_5) rfl kx_) ?_
      refine W.s1 (mkF m 7 #[.val (.ref aa), .val (.int xv), .val (.int i), .val (.int xz)] [(.int xz), (.int i)]) (fun _ kx_ => XS.iloadN X.here hx rfl (hb hby d4_6) rfl kx_) ?_
      refine W.icmp X hx (hb hby d4_7) (pc' := 20) (pc'' := 10) (by decide) (by decide) rfl (fun (c7 : ¬ i < xz) => ?_) (fun (c7 : i < xz) => ?_)
      · exact absurd c7 (by rw [Int32.lt_iff_toInt_lt]; omega)
      · refine W.s1 (mkF m 11 #[.val (.ref aa), .val (.int xv), .val (.int i), .val (.int xz)] [(.ref aa)]) (fun _ kx_ => XS.aloadN X.here hx rfl (hb hby d4_10) rfl rfl kx_) ?_
        refine W.s1 (mkF m 12 #[.val (.ref aa), .val (.int xv), .val (.int i), .val (.int xz)] [(.int i), (.ref aa)]) (fun _ kx_ => XS.iloadN X.here hx rfl (hb hby d4_11) rfl kx_) ?_
        refine W.s1 (mkF m 13 #[.val (.ref aa), .val (.int xv), .val (.int i), .val (.int xz)] [(.int xv), (.int i), (.ref aa)]) (fun _ kx_ => XS.iloadN X.here hx rfl (hb hby d4_12) rfl kx_) ?_
        refine W.sti X hx hZ e1 Aa j hi (by rw [Int32.lt_iff_toInt_lt] at c7; omega) N ga (hb hby d4_13) (pc' := 14) rfl (fun T101 h101 L101 X101 e101 W101 fw101 N101 => ?_)
        have Z101 : n0 ≤ h101.size := Nat.le_trans Zh (Keep.of_wr W101).1
        have K101 : Keep h0 h101 [aa] := K.wr W101 (Or.inl (List.mem_of_getElem? (i := 0) rfl))
        refine W.s1 (mkF m 17 #[.val (.ref aa), .val (.int xv), .val (.int (i + (1 : Int32))), .val (.int xz)] []) (fun _ kx_ => XS.iinc X101.here hx rfl (hb hby d4_14) rfl (l' := #[.val (.ref aa), .val (.int xv), .val (.int (i + (1 : Int32))), .val (.int xz)]) rfl kx_) ?_
        refine W.s1 (mkF m 5 #[.val (.ref aa), .val (.int xv), .val (.int (i + (1 : Int32))), .val (.int xz)] []) (fun _ kx_ => XS.goto X101.here hx rfl (pc0 := 17) (pc' := 5) rfl (hb hby d4_17) (by decide) (by decide) kx_) ?_
        have hi' : (i + (1 : Int32)).toInt = ((j + 1 : Nat) : Int) := by have := c_iadd i 1; have := rng32 (i + (1 : Int32)); have := rng32 xz; have e1 : (1 : Int32).toInt = 1 := rfl; omega
        exact ih (j + 1) _ _ _ _ _ (by omega) hi' X101 e101 N101 Z101 K101 fw101 (fun k hk => by by_cases ek : k = j; rw [ek, W.up_same]; rw [W.up_other _ _ ek]; exact hf k (by omega))
  exact loop n 0 _ _ _ _ _ (by omega) rfl X0 e0 N0 Z0 K0 A0 (fun k hk => absurd hk (by omega))
theorem pn_2 : plainName "com/example/stummel/stummel/geometry/PendingCrossings" = true := by first | (simp [plainName, overriddenIn]; done) | decide +kernel
theorem ef_2 (m : MethodId) (x0 : Addr) (x1 : Int32) (x2 : Addr) (x3 : Addr) (x4 : Addr) : entryFrame m #[(.ref x0), (.int x1), (.ref x2), (.ref x3), (.ref x4)] 5 = mkF m 0 #[.val (.ref x0), .val (.int x1), .val (.ref x2), .val (.ref x3), .val (.ref x4)] [] := by first | (simp [entryFrame, mkF, argsToLocals, Value.category]; done) | rfl
theorem d2_0 : decode prog_7_method_1_code 0 = .ok (.aload_n 0, 1) := by decide +kernel
theorem d2_1 : decode prog_7_method_1_code 1 = .ok (.invokespecial 1, 3) := by decide +kernel
theorem d2_4 : decode prog_7_method_1_code 4 = .ok (.aload_n 0, 1) := by decide +kernel
theorem d2_5 : decode prog_7_method_1_code 5 = .ok (.aload_n 2, 1) := by decide +kernel
theorem d2_6 : decode prog_7_method_1_code 6 = .ok (.putfield 7, 3) := by decide +kernel
theorem d2_9 : decode prog_7_method_1_code 9 = .ok (.aload_n 0, 1) := by decide +kernel
theorem d2_10 : decode prog_7_method_1_code 10 = .ok (.aload_n 3, 1) := by decide +kernel
theorem d2_11 : decode prog_7_method_1_code 11 = .ok (.putfield 13, 3) := by decide +kernel
theorem d2_14 : decode prog_7_method_1_code 14 = .ok (.aload_n 0, 1) := by decide +kernel
theorem d2_15 : decode prog_7_method_1_code 15 = .ok (.aload 4, 2) := by decide +kernel
theorem d2_17 : decode prog_7_method_1_code 17 = .ok (.putfield 17, 3) := by decide +kernel
theorem d2_20 : decode prog_7_method_1_code 20 = .ok (.aload_n 0, 1) := by decide +kernel
theorem d2_21 : decode prog_7_method_1_code 21 = .ok (.aload_n 2, 1) := by decide +kernel
theorem d2_22 : decode prog_7_method_1_code 22 = .ok (.arraylength, 1) := by decide +kernel
theorem d2_23 : decode prog_7_method_1_code 23 = .ok (.newarray .int, 2) := by decide +kernel
theorem d2_25 : decode prog_7_method_1_code 25 = .ok (.putfield 20, 3) := by decide +kernel
theorem d2_28 : decode prog_7_method_1_code 28 = .ok (.aload_n 0, 1) := by decide +kernel
theorem d2_29 : decode prog_7_method_1_code 29 = .ok (.getfield 20, 3) := by decide +kernel
theorem d2_32 : decode prog_7_method_1_code 32 = .ok (.iconst (-1), 1) := by decide +kernel
theorem d2_33 : decode prog_7_method_1_code 33 = .ok (.invokestatic 23, 3) := by decide +kernel
theorem pd_0 : parseMethodDescriptor "([II)V" = some ⟨[(.array .int), .int], none⟩ := by decide +kernel
theorem d2_36 : decode prog_7_method_1_code 36 = .ok (.aload_n 0, 1) := by decide +kernel
theorem d2_37 : decode prog_7_method_1_code 37 = .ok (.iload_n 1, 1) := by decide +kernel
theorem d2_38 : decode prog_7_method_1_code 38 = .ok (.newarray .int, 2) := by decide +kernel
theorem d2_40 : decode prog_7_method_1_code 40 = .ok (.putfield 29, 3) := by decide +kernel
theorem d2_43 : decode prog_7_method_1_code 43 = .ok (.aload_n 0, 1) := by decide +kernel
theorem d2_44 : decode prog_7_method_1_code 44 = .ok (.getfield 29, 3) := by decide +kernel
theorem d2_47 : decode prog_7_method_1_code 47 = .ok (.iconst (-1), 1) := by decide +kernel
theorem d2_48 : decode prog_7_method_1_code 48 = .ok (.invokestatic 23, 3) := by decide +kernel
theorem d2_51 : decode prog_7_method_1_code 51 = .ok (.aload_n 0, 1) := by decide +kernel
theorem d2_52 : decode prog_7_method_1_code 52 = .ok (.iload_n 1, 1) := by decide +kernel
theorem d2_53 : decode prog_7_method_1_code 53 = .ok (.newarray .int, 2) := by decide +kernel
theorem d2_55 : decode prog_7_method_1_code 55 = .ok (.putfield 32, 3) := by decide +kernel
theorem d2_58 : decode prog_7_method_1_code 58 = .ok (.aload_n 0, 1) := by decide +kernel
theorem d2_59 : decode prog_7_method_1_code 59 = .ok (.iload_n 1, 1) := by decide +kernel
theorem d2_60 : decode prog_7_method_1_code 60 = .ok (.newarray .int, 2) := by decide +kernel
theorem d2_62 : decode prog_7_method_1_code 62 = .ok (.putfield 35, 3) := by decide +kernel
theorem d2_65 : decode prog_7_method_1_code 65 = .ok (.return_, 1) := by decide +kernel
def Q2 (Z : State) (ao : Addr) (zb : Addr) (zx : Addr) (zy : Addr) (u_byPlace : Value) (u_x : Value) (u_y : Value) (u_firstDue : Value) (u_dueAt : Value) (u_next : Value) (u_previous : Value) (h0 : Heap) (n0 : Nat) (v : Option Value) (h : Heap) (L : List Loc) : Prop := v = none ∧ Fr n0 L ∧ Keep h0 h [ao] ∧ ∃ zf zd zn zp : Addr, h0.size ≤ zf ∧ h0.size ≤ zd ∧ h0.size ≤ zn ∧ h0.size ≤ zp ∧ own_ord ao zb zx zy zf zd zn zp ∧ own_ge n0 ao zb zx zy zf zd zn zp ∧ own_PC Z h ao zb zx zy zf zd zn zp own_s0
set_option maxRecDepth 65536 in
set_option maxHeartbeats 40000000 in
theorem rm2 (l : Launch) (Z : State) (a0 : Array Value) (hw : ∀ d ∈ tables_1, d.before a0 Z = true) (ws : List Jvm.Cond) (ao : Addr) (zb : Addr) (zx : Addr) (zy : Addr) (u_byPlace : Value) (u_x : Value) (u_y : Value) (u_firstDue : Value) (u_dueAt : Value) (u_next : Value) (u_previous : Value) (h0 : Heap) (n0 : Nat) (Z0 : n0 ≤ h0.size) (E0 : Exa Z h0 ao "com/example/stummel/stummel/geometry/PendingCrossings") (F_byPlace : Fld Z h0 ao "com/example/stummel/stummel/geometry/PendingCrossings" "byPlace" "[I" u_byPlace) (F_x : Fld Z h0 ao "com/example/stummel/stummel/geometry/PendingCrossings" "x" "[D" u_x) (F_y : Fld Z h0 ao "com/example/stummel/stummel/geometry/PendingCrossings" "y" "[D" u_y) (F_firstDue : Fld Z h0 ao "com/example/stummel/stummel/geometry/PendingCrossings" "firstDue" "[I" u_firstDue) (F_dueAt : Fld Z h0 ao "com/example/stummel/stummel/geometry/PendingCrossings" "dueAt" "[I" u_dueAt) (F_next : Fld Z h0 ao "com/example/stummel/stummel/geometry/PendingCrossings" "next" "[I" u_next) (F_previous : Fld Z h0 ao "com/example/stummel/stummel/geometry/PendingCrossings" "previous" "[I" u_previous) (g0 : n0 ≤ ao) (gb : n0 ≤ zb) (gx : n0 ≤ zx) (gy : n0 ≤ zy) (Ab : W.AI Z h0 zb .int 2 (W.up (W.up (fun _ => 0) 0 (0 : Int32)) 1 (1 : Int32))) (Ax : W.AD Z h0 zx 2 (W.up (W.up (fun _ => 0) 0 (FP.l2d (0 : Int64))) 1 (FP.l2d (1 : Int64)))) (Ay : W.AD Z h0 zy 2 (W.up (W.up (fun _ => 0) 0 (FP.l2d (0 : Int64))) 1 (FP.l2d (0 : Int64)))) (n1 : ao ≠ zb) (n2 : ao ≠ zx) (n3 : ao ≠ zy) (n4 : zb ≠ zx) (n5 : zb ≠ zy) (n6 : zx ≠ zy) :
    MetFree l (⟨"com/example/stummel/stummel/geometry/PendingCrossings", "<init>", "(I[I[D[D)V"⟩ : MethodName) (head1 (Jvm.Cond.code (⟨"com/example/stummel/stummel/geometry/PendingCrossings", "<init>", "(I[I[D[D)V"⟩ : MethodName) prog_7_method_1_code 5 none :: ws) ({ frames := 1, cells := 4, slots := 11, locals := 15 } : Room)) (fun a U => a = #[(.ref ao), (.int (3 : Int32)), (.ref zb), (.ref zx), (.ref zy)] ∧ Z.Warmed39 U.vm ∧ U.heap = h0) (fun _ _ _ _ _ => True) (fun _ U o U' => ∃ v L, o = .returned v ∧ Q2 Z ao zb zx zy u_byPlace u_x u_y u_firstDue u_dueAt u_next u_previous h0 n0 v U'.heap L ∧ FrameEnd U o U' L ({ frames := 1, cells := 4, slots := 11, locals := 15 } : Room).cells ({ frames := 1, cells := 4, slots := 11, locals := 15 } : Room).slots) := by
  refine MetFree.of_bodySF (plainFor_of_name pn_2) hisR ?_
  intro p e s m args below meth c s₁ Bd hml0 hP hK
  obtain ⟨rfl, hZ, hh⟩ := hP
  have hx := Bd.exec
  have hby := Bd.bytes
  have hml : c.maxLocals = 5 := hml0
  have hown : s.vm.findClass "com/example/stummel/stummel/geometry/PendingCrossings" = some m.cls := findClass_of_methodNamed Bd.named
  have hnm := (name_of_methodNamed Bd.named Bd.method).1
  have hlk : meth.locks = false := BodyLoose.notSynchronized Bd
  have X0 : Stand p l e ({ frames := 1, cells := 4, slots := 11, locals := 15 } : Room) s m #[(.ref ao), (.int (3 : Int32)), (.ref zb), (.ref zx), (.ref zy)] below meth c s₁ [] 0 0 := Stand.of_body Bd
  have e0 : s₁.heap = h0 := by rw [← hh, Bd.state]; rfl
  have N0 := Fr.nil n0
  show W.Gl p e below s (Q2 Z ao zb zx zy u_byPlace u_x u_y u_firstDue u_dueAt u_next u_previous h0 n0) ({ frames := 1, cells := 4, slots := 11, locals := 15 } : Room).cells ({ frames := 1, cells := 4, slots := 11, locals := 15 } : Room).slots s₁ (entryFrame m #[(.ref ao), (.int (3 : Int32)), (.ref zb), (.ref zx), (.ref zy)] 5)
  refine W.cast (ef_2 m ao (3 : Int32) zb zx zy) ?_
  have K0 : Keep h0 h0 [ao] := Keep.refl h0 [ao]
  refine W.s1 (mkF m 1 #[.val (.ref ao), .val (.int (3 : Int32)), .val (.ref zb), .val (.ref zx), .val (.ref zy)] [(.ref ao)]) (fun _ kx_ => XS.aloadN X0.here hx rfl (hb hby d2_0) rfl rfl kx_) ?_
  obtain ⟨T101, X101, e101, st101⟩ := initO X0 hx hZ hown (hw _ (List.mem_of_getElem? (i := 13) rfl)) (hw _ (List.mem_of_getElem? (i := 14) rfl)) (hw _ (List.mem_of_getElem? (i := 15) rfl)) e0 (g := (mkF m 1 #[.val (.ref ao), .val (.int (3 : Int32)), .val (.ref zb), .val (.ref zx), .val (.ref zy)] [(.ref ao)])) rfl (by rw [hml]; rfl) rfl (hb hby d2_1) (by decide) (W := 0) (by show 2 * 0 + _ ≤ _; exact Nat.le_of_eq rfl) (by decide)
  refine W.s2 (mkF m 4 #[.val (.ref ao), .val (.int (3 : Int32)), .val (.ref zb), .val (.ref zx), .val (.ref zy)] []) st101 ?_
  refine W.s1 (mkF m 5 #[.val (.ref ao), .val (.int (3 : Int32)), .val (.ref zb), .val (.ref zx), .val (.ref zy)] [(.ref ao)]) (fun _ kx_ => XS.aloadN X101.here hx rfl (hb hby d2_4) rfl rfl kx_) ?_
  refine W.s1 (mkF m 6 #[.val (.ref ao), .val (.int (3 : Int32)), .val (.ref zb), .val (.ref zx), .val (.ref zy)] [(.ref zb), (.ref ao)]) (fun _ kx_ => XS.aloadN X101.here hx rfl (hb hby d2_5) rfl rfl kx_) ?_
  refine W.putf X101 hx hZ hown (host := "") (Or.inl (hw _ (List.mem_of_getElem? (i := 16) rfl))) Via.refl e101 F_byPlace E0 (Or.inr ⟨(hw _ (List.mem_of_getElem? (i := 17) rfl)), rfl, hnm⟩) (hw _ (List.mem_of_getElem? (i := 7) rfl)) (ty := (.array .int)) (by decide) rfl rfl N0 g0 (hb hby d2_6) (pc' := 9) rfl (fun T102 h102 L102 X102 e102 W102 fw102 N102 => ?_)
  have Z102 : n0 ≤ h102.size := Nat.le_trans Z0 (Keep.of_wr W102).1
  have f103 := E0.wr W102
  have f104 := F_x.other W102 (Or.inr (slot_ne (Or.inr (hw _ (List.mem_of_getElem? (i := 19) rfl))) (Or.inr (hw _ (List.mem_of_getElem? (i := 17) rfl))) (by decide) (t := (.array .double)) (t' := (.array .int)) (by decide) (by decide)))
  have f105 := F_y.other W102 (Or.inr (slot_ne (Or.inr (hw _ (List.mem_of_getElem? (i := 21) rfl))) (Or.inr (hw _ (List.mem_of_getElem? (i := 17) rfl))) (by decide) (t := (.array .double)) (t' := (.array .int)) (by decide) (by decide)))
  have f106 := F_firstDue.other W102 (Or.inr (slot_ne (Or.inr (hw _ (List.mem_of_getElem? (i := 23) rfl))) (Or.inr (hw _ (List.mem_of_getElem? (i := 17) rfl))) (by decide) (t := (.array .int)) (t' := (.array .int)) (by decide) (by decide)))
  have f107 := F_dueAt.other W102 (Or.inr (slot_ne (Or.inr (hw _ (List.mem_of_getElem? (i := 29) rfl))) (Or.inr (hw _ (List.mem_of_getElem? (i := 17) rfl))) (by decide) (t := (.array .int)) (t' := (.array .int)) (by decide) (by decide)))
  have f108 := F_next.other W102 (Or.inr (slot_ne (Or.inr (hw _ (List.mem_of_getElem? (i := 31) rfl))) (Or.inr (hw _ (List.mem_of_getElem? (i := 17) rfl))) (by decide) (t := (.array .int)) (t' := (.array .int)) (by decide) (by decide)))
  have f109 := F_previous.other W102 (Or.inr (slot_ne (Or.inr (hw _ (List.mem_of_getElem? (i := 33) rfl))) (Or.inr (hw _ (List.mem_of_getElem? (i := 17) rfl))) (by decide) (t := (.array .int)) (t' := (.array .int)) (by decide) (by decide)))
  have f110 := Ab.other W102 (Ne.symm n1)
  have f111 := Ax.other W102 (Ne.symm n2)
  have f112 := Ay.other W102 (Ne.symm n3)
  have K102 : Keep h0 h102 [ao] := K0.wr W102 (Or.inl (List.mem_of_getElem? (i := 0) rfl))
  refine W.s1 (mkF m 10 #[.val (.ref ao), .val (.int (3 : Int32)), .val (.ref zb), .val (.ref zx), .val (.ref zy)] [(.ref ao)]) (fun _ kx_ => XS.aloadN X102.here hx rfl (hb hby d2_9) rfl rfl kx_) ?_
  refine W.s1 (mkF m 11 #[.val (.ref ao), .val (.int (3 : Int32)), .val (.ref zb), .val (.ref zx), .val (.ref zy)] [(.ref zx), (.ref ao)]) (fun _ kx_ => XS.aloadN X102.here hx rfl (hb hby d2_10) rfl rfl kx_) ?_
  refine W.putf X102 hx hZ hown (host := "") (Or.inl (hw _ (List.mem_of_getElem? (i := 18) rfl))) Via.refl e102 f104 f103 (Or.inr ⟨(hw _ (List.mem_of_getElem? (i := 19) rfl)), rfl, hnm⟩) (hw _ (List.mem_of_getElem? (i := 7) rfl)) (ty := (.array .double)) (by decide) rfl rfl N102 g0 (hb hby d2_11) (pc' := 14) rfl (fun T113 h113 L113 X113 e113 W113 fw113 N113 => ?_)
  have Z113 : n0 ≤ h113.size := Nat.le_trans Z102 (Keep.of_wr W113).1
  have f114 := f103.wr W113
  have f115 := fw102.other W113 (Or.inr (slot_ne (Or.inr (hw _ (List.mem_of_getElem? (i := 17) rfl))) (Or.inr (hw _ (List.mem_of_getElem? (i := 19) rfl))) (by decide) (t := (.array .int)) (t' := (.array .double)) (by decide) (by decide)))
  have f116 := f105.other W113 (Or.inr (slot_ne (Or.inr (hw _ (List.mem_of_getElem? (i := 21) rfl))) (Or.inr (hw _ (List.mem_of_getElem? (i := 19) rfl))) (by decide) (t := (.array .double)) (t' := (.array .double)) (by decide) (by decide)))
  have f117 := f106.other W113 (Or.inr (slot_ne (Or.inr (hw _ (List.mem_of_getElem? (i := 23) rfl))) (Or.inr (hw _ (List.mem_of_getElem? (i := 19) rfl))) (by decide) (t := (.array .int)) (t' := (.array .double)) (by decide) (by decide)))
  have f118 := f107.other W113 (Or.inr (slot_ne (Or.inr (hw _ (List.mem_of_getElem? (i := 29) rfl))) (Or.inr (hw _ (List.mem_of_getElem? (i := 19) rfl))) (by decide) (t := (.array .int)) (t' := (.array .double)) (by decide) (by decide)))
  have f119 := f108.other W113 (Or.inr (slot_ne (Or.inr (hw _ (List.mem_of_getElem? (i := 31) rfl))) (Or.inr (hw _ (List.mem_of_getElem? (i := 19) rfl))) (by decide) (t := (.array .int)) (t' := (.array .double)) (by decide) (by decide)))
  have f120 := f109.other W113 (Or.inr (slot_ne (Or.inr (hw _ (List.mem_of_getElem? (i := 33) rfl))) (Or.inr (hw _ (List.mem_of_getElem? (i := 19) rfl))) (by decide) (t := (.array .int)) (t' := (.array .double)) (by decide) (by decide)))
  have f121 := f110.other W113 (Ne.symm n1)
  have f122 := f111.other W113 (Ne.symm n2)
  have f123 := f112.other W113 (Ne.symm n3)
  have K113 : Keep h0 h113 [ao] := K102.wr W113 (Or.inl (List.mem_of_getElem? (i := 0) rfl))
  refine W.s1 (mkF m 15 #[.val (.ref ao), .val (.int (3 : Int32)), .val (.ref zb), .val (.ref zx), .val (.ref zy)] [(.ref ao)]) (fun _ kx_ => XS.aloadN X113.here hx rfl (hb hby d2_14) rfl rfl kx_) ?_
  refine W.s1 (mkF m 17 #[.val (.ref ao), .val (.int (3 : Int32)), .val (.ref zb), .val (.ref zx), .val (.ref zy)] [(.ref zy), (.ref ao)]) (fun _ kx_ => XS.aload X113.here hx rfl (hb hby d2_15) rfl rfl kx_) ?_
  refine W.putf X113 hx hZ hown (host := "") (Or.inl (hw _ (List.mem_of_getElem? (i := 20) rfl))) Via.refl e113 f116 f114 (Or.inr ⟨(hw _ (List.mem_of_getElem? (i := 21) rfl)), rfl, hnm⟩) (hw _ (List.mem_of_getElem? (i := 7) rfl)) (ty := (.array .double)) (by decide) rfl rfl N113 g0 (hb hby d2_17) (pc' := 20) rfl (fun T124 h124 L124 X124 e124 W124 fw124 N124 => ?_)
  have Z124 : n0 ≤ h124.size := Nat.le_trans Z113 (Keep.of_wr W124).1
  have f125 := f114.wr W124
  have f126 := f115.other W124 (Or.inr (slot_ne (Or.inr (hw _ (List.mem_of_getElem? (i := 17) rfl))) (Or.inr (hw _ (List.mem_of_getElem? (i := 21) rfl))) (by decide) (t := (.array .int)) (t' := (.array .double)) (by decide) (by decide)))
  have f127 := fw113.other W124 (Or.inr (slot_ne (Or.inr (hw _ (List.mem_of_getElem? (i := 19) rfl))) (Or.inr (hw _ (List.mem_of_getElem? (i := 21) rfl))) (by decide) (t := (.array .double)) (t' := (.array .double)) (by decide) (by decide)))
  have f128 := f117.other W124 (Or.inr (slot_ne (Or.inr (hw _ (List.mem_of_getElem? (i := 23) rfl))) (Or.inr (hw _ (List.mem_of_getElem? (i := 21) rfl))) (by decide) (t := (.array .int)) (t' := (.array .double)) (by decide) (by decide)))
  have f129 := f118.other W124 (Or.inr (slot_ne (Or.inr (hw _ (List.mem_of_getElem? (i := 29) rfl))) (Or.inr (hw _ (List.mem_of_getElem? (i := 21) rfl))) (by decide) (t := (.array .int)) (t' := (.array .double)) (by decide) (by decide)))
  have f130 := f119.other W124 (Or.inr (slot_ne (Or.inr (hw _ (List.mem_of_getElem? (i := 31) rfl))) (Or.inr (hw _ (List.mem_of_getElem? (i := 21) rfl))) (by decide) (t := (.array .int)) (t' := (.array .double)) (by decide) (by decide)))
  have f131 := f120.other W124 (Or.inr (slot_ne (Or.inr (hw _ (List.mem_of_getElem? (i := 33) rfl))) (Or.inr (hw _ (List.mem_of_getElem? (i := 21) rfl))) (by decide) (t := (.array .int)) (t' := (.array .double)) (by decide) (by decide)))
  have f132 := f121.other W124 (Ne.symm n1)
  have f133 := f122.other W124 (Ne.symm n2)
  have f134 := f123.other W124 (Ne.symm n3)
  have K124 : Keep h0 h124 [ao] := K113.wr W124 (Or.inl (List.mem_of_getElem? (i := 0) rfl))
  refine W.s1 (mkF m 21 #[.val (.ref ao), .val (.int (3 : Int32)), .val (.ref zb), .val (.ref zx), .val (.ref zy)] [(.ref ao)]) (fun _ kx_ => XS.aloadN X124.here hx rfl (hb hby d2_20) rfl rfl kx_) ?_
  refine W.s1 (mkF m 22 #[.val (.ref ao), .val (.int (3 : Int32)), .val (.ref zb), .val (.ref zx), .val (.ref zy)] [(.ref zb), (.ref ao)]) (fun _ kx_ => XS.aloadN X124.here hx rfl (hb hby d2_21) rfl rfl kx_) ?_
  refine W.alen X124 hx hZ e124 f132 (z := (2 : Int32)) rfl (hb hby d2_22) (pc' := 23) rfl ?_
  refine W.newi X124 hx hZ (ty := .int) (aty := .int) (hw _ (List.mem_of_getElem? (i := 5) rfl)) rfl rfl e124 (hb hby d2_23) (n := 2) rfl (cap := 2) (Nat.le_refl _) (by decide) (by decide) (by decide) (pc' := 25) rfl (fun T135 h135 zf X135 e135 E135 g135 A135 => ?_)
  have ne136 : ao ≠ zf := Nat.ne_of_lt (Nat.lt_of_lt_of_le f125.lt (Nat.le_of_eq g135.symm))
  have ne137 : zb ≠ zf := Nat.ne_of_lt (Nat.lt_of_lt_of_le f132.lt (Nat.le_of_eq g135.symm))
  have ne138 : zx ≠ zf := Nat.ne_of_lt (Nat.lt_of_lt_of_le f133.lt (Nat.le_of_eq g135.symm))
  have ne139 : zy ≠ zf := Nat.ne_of_lt (Nat.lt_of_lt_of_le f134.lt (Nat.le_of_eq g135.symm))
  have ge135 : n0 ≤ zf := Nat.le_trans Z124 (Nat.le_of_eq g135.symm)
  have sz135 : h0.size ≤ zf := Nat.le_trans K124.1 (Nat.le_of_eq g135.symm)
  have Z135 : n0 ≤ h135.size := Nat.le_trans Z124 E135.1
  have K135 : Keep h0 h135 [ao] := K124.ext E135
  have f140 := f125.ext E135
  have f141 := f126.ext E135
  have f142 := f127.ext E135
  have f143 := fw124.ext E135
  have f144 := f128.ext E135
  have f145 := f129.ext E135
  have f146 := f130.ext E135
  have f147 := f131.ext E135
  have f148 := f132.ext E135
  have f149 := f133.ext E135
  have f150 := f134.ext E135
  refine W.putf X135 hx hZ hown (host := "") (Or.inl (hw _ (List.mem_of_getElem? (i := 22) rfl))) Via.refl e135 f144 f140 (Or.inr ⟨(hw _ (List.mem_of_getElem? (i := 23) rfl)), rfl, hnm⟩) (hw _ (List.mem_of_getElem? (i := 7) rfl)) (ty := (.array .int)) (by decide) rfl rfl N124 g0 (hb hby d2_25) (pc' := 28) rfl (fun T151 h151 L151 X151 e151 W151 fw151 N151 => ?_)
  have Z151 : n0 ≤ h151.size := Nat.le_trans Z135 (Keep.of_wr W151).1
  have f152 := f140.wr W151
  have f153 := f141.other W151 (Or.inr (slot_ne (Or.inr (hw _ (List.mem_of_getElem? (i := 17) rfl))) (Or.inr (hw _ (List.mem_of_getElem? (i := 23) rfl))) (by decide) (t := (.array .int)) (t' := (.array .int)) (by decide) (by decide)))
  have f154 := f142.other W151 (Or.inr (slot_ne (Or.inr (hw _ (List.mem_of_getElem? (i := 19) rfl))) (Or.inr (hw _ (List.mem_of_getElem? (i := 23) rfl))) (by decide) (t := (.array .double)) (t' := (.array .int)) (by decide) (by decide)))
  have f155 := f143.other W151 (Or.inr (slot_ne (Or.inr (hw _ (List.mem_of_getElem? (i := 21) rfl))) (Or.inr (hw _ (List.mem_of_getElem? (i := 23) rfl))) (by decide) (t := (.array .double)) (t' := (.array .int)) (by decide) (by decide)))
  have f156 := f145.other W151 (Or.inr (slot_ne (Or.inr (hw _ (List.mem_of_getElem? (i := 29) rfl))) (Or.inr (hw _ (List.mem_of_getElem? (i := 23) rfl))) (by decide) (t := (.array .int)) (t' := (.array .int)) (by decide) (by decide)))
  have f157 := f146.other W151 (Or.inr (slot_ne (Or.inr (hw _ (List.mem_of_getElem? (i := 31) rfl))) (Or.inr (hw _ (List.mem_of_getElem? (i := 23) rfl))) (by decide) (t := (.array .int)) (t' := (.array .int)) (by decide) (by decide)))
  have f158 := f147.other W151 (Or.inr (slot_ne (Or.inr (hw _ (List.mem_of_getElem? (i := 33) rfl))) (Or.inr (hw _ (List.mem_of_getElem? (i := 23) rfl))) (by decide) (t := (.array .int)) (t' := (.array .int)) (by decide) (by decide)))
  have f159 := f148.other W151 (Ne.symm n1)
  have f160 := f149.other W151 (Ne.symm n2)
  have f161 := f150.other W151 (Ne.symm n3)
  have f162 := A135.other W151 (Ne.symm ne136)
  have K151 : Keep h0 h151 [ao] := K135.wr W151 (Or.inl (List.mem_of_getElem? (i := 0) rfl))
  refine W.s1 (mkF m 29 #[.val (.ref ao), .val (.int (3 : Int32)), .val (.ref zb), .val (.ref zx), .val (.ref zy)] [(.ref ao)]) (fun _ kx_ => XS.aloadN X151.here hx rfl (hb hby d2_28) rfl rfl kx_) ?_
  refine W.getf X151 hx hZ hown (host := "") (Or.inl (hw _ (List.mem_of_getElem? (i := 22) rfl))) Via.refl e151 fw151 (hb hby d2_29) (pc' := 32) rfl (fun T163 X163 e163 => ?_)
  refine W.s1 (mkF m 33 #[.val (.ref ao), .val (.int (3 : Int32)), .val (.ref zb), .val (.ref zx), .val (.ref zy)] [(.int (-1 : Int32)), (.ref zf)]) (fun _ kx_ => XS.iconst X163.here hx rfl (hb hby d2_32) kx_) ?_
  obtain ⟨_, _, ⟨T164, L164, k164, n164⟩, -, X164, ⟨Lc164, hQ164, l164, y164, z164⟩, st164⟩ := Jvm.LawKit.callS X163 hx (y := (⟨"java/util/Arrays", "fill", "([II)V"⟩ : MethodName)) hown (mvT hZ (hw _ (List.mem_of_getElem? (i := 24) rfl))) (mvT hZ (hw _ (List.mem_of_getElem? (i := 25) rfl))) (mvT hZ (hw _ (List.mem_of_getElem? (i := 26) rfl))) (mvT hZ (hw _ (List.mem_of_getElem? (i := 27) rfl))) (by decide) (backOf (W := 0) (rm4 l Z a0 hw [] zf (-1 : Int32) 2 (2 : Int32) (fun _ => 0) h151 n0 Z151 rfl f162 ge135) hZ (hw _ (List.mem_of_getElem? (i := 27) rfl)) (hw _ (List.mem_of_getElem? (i := 26) rfl)) (by decide) (by decide)) (g := (mkF m 33 #[.val (.ref ao), .val (.int (3 : Int32)), .val (.ref zb), .val (.ref zx), .val (.ref zy)] [(.int (-1 : Int32)), (.ref zf)])) rfl (by rw [hml]; rfl) (argsL := [(.ref zf), (.int (-1 : Int32))]) (rest := []) (lenOf pd_0 rfl) rfl (by show 2 * 0 + _ ≤ _; exact Nat.le_of_eq rfl) (hb hby d2_33) (fun _ _ => ⟨rfl, e163, (by decide : 1 + 0 ≤ _), (by decide : 2 + 0 ≤ _)⟩)
  dsimp only [Pt.U, Pt.locs, Pt.cells, Pt.slots] at X164 l164 y164 z164 st164 hQ164
  subst l164 y164 z164
  obtain ⟨h164, e164⟩ : ∃ z, T164.heap = z := ⟨_, rfl⟩
  rw [e164] at hQ164
  obtain ⟨rfl, Nq164, Kq164, A164⟩ := hQ164
  have N164 := Fr.app N151 Nq164
  have Z164 : n0 ≤ h164.size := Nat.le_trans Z151 Kq164.1
  have K164 : Keep h0 h164 [ao] := K151.trans Kq164 (allS (Or.inr sz135) all0)
  have f165 := f152.keep Kq164
  have f166 := f153.keep Kq164 (ninS ne136 nin0)
  have f167 := f154.keep Kq164 (ninS ne136 nin0)
  have f168 := f155.keep Kq164 (ninS ne136 nin0)
  have f169 := fw151.keep Kq164 (ninS ne136 nin0)
  have f170 := f156.keep Kq164 (ninS ne136 nin0)
  have f171 := f157.keep Kq164 (ninS ne136 nin0)
  have f172 := f158.keep Kq164 (ninS ne136 nin0)
  have f173 := f159.keep Kq164 (ninS ne137 nin0)
  have f174 := f160.keep Kq164 (ninS ne138 nin0)
  have f175 := f161.keep Kq164 (ninS ne139 nin0)
  refine W.s2 (mkF m 36 #[.val (.ref ao), .val (.int (3 : Int32)), .val (.ref zb), .val (.ref zx), .val (.ref zy)] []) st164 ?_
  refine W.s1 (mkF m 37 #[.val (.ref ao), .val (.int (3 : Int32)), .val (.ref zb), .val (.ref zx), .val (.ref zy)] [(.ref ao)]) (fun _ kx_ => XS.aloadN X164.here hx rfl (hb hby d2_36) rfl rfl kx_) ?_
  refine W.s1 (mkF m 38 #[.val (.ref ao), .val (.int (3 : Int32)), .val (.ref zb), .val (.ref zx), .val (.ref zy)] [(.int (3 : Int32)), (.ref ao)]) (fun _ kx_ => XS.iloadN X164.here hx rfl (hb hby d2_37) rfl kx_) ?_
  refine W.newi X164 hx hZ (ty := .int) (aty := .int) (hw _ (List.mem_of_getElem? (i := 5) rfl)) rfl rfl e164 (hb hby d2_38) (n := 3) rfl (cap := 3) (Nat.le_refl _) (by decide) (by decide) (by decide) (pc' := 40) rfl (fun T177 h177 zd X177 e177 E177 g177 A177 => ?_)
  have ne178 : ao ≠ zd := Nat.ne_of_lt (Nat.lt_of_lt_of_le f165.lt (Nat.le_of_eq g177.symm))
  have ne179 : zb ≠ zd := Nat.ne_of_lt (Nat.lt_of_lt_of_le f173.lt (Nat.le_of_eq g177.symm))
  have ne180 : zx ≠ zd := Nat.ne_of_lt (Nat.lt_of_lt_of_le f174.lt (Nat.le_of_eq g177.symm))
  have ne181 : zy ≠ zd := Nat.ne_of_lt (Nat.lt_of_lt_of_le f175.lt (Nat.le_of_eq g177.symm))
  have ne182 : zf ≠ zd := Nat.ne_of_lt (Nat.lt_of_lt_of_le A164.lt (Nat.le_of_eq g177.symm))
  have ge177 : n0 ≤ zd := Nat.le_trans Z164 (Nat.le_of_eq g177.symm)
  have sz177 : h0.size ≤ zd := Nat.le_trans K164.1 (Nat.le_of_eq g177.symm)
  have Z177 : n0 ≤ h177.size := Nat.le_trans Z164 E177.1
  have K177 : Keep h0 h177 [ao] := K164.ext E177
  have f183 := f165.ext E177
  have f184 := f166.ext E177
  have f185 := f167.ext E177
  have f186 := f168.ext E177
  have f187 := f169.ext E177
  have f188 := f170.ext E177
  have f189 := f171.ext E177
  have f190 := f172.ext E177
  have f191 := f173.ext E177
  have f192 := f174.ext E177
  have f193 := f175.ext E177
  have f194 := A164.ext E177
  refine W.putf X177 hx hZ hown (host := "") (Or.inl (hw _ (List.mem_of_getElem? (i := 28) rfl))) Via.refl e177 f188 f183 (Or.inr ⟨(hw _ (List.mem_of_getElem? (i := 29) rfl)), rfl, hnm⟩) (hw _ (List.mem_of_getElem? (i := 7) rfl)) (ty := (.array .int)) (by decide) rfl rfl N164 g0 (hb hby d2_40) (pc' := 43) rfl (fun T195 h195 L195 X195 e195 W195 fw195 N195 => ?_)
  have Z195 : n0 ≤ h195.size := Nat.le_trans Z177 (Keep.of_wr W195).1
  have f196 := f183.wr W195
  have f197 := f184.other W195 (Or.inr (slot_ne (Or.inr (hw _ (List.mem_of_getElem? (i := 17) rfl))) (Or.inr (hw _ (List.mem_of_getElem? (i := 29) rfl))) (by decide) (t := (.array .int)) (t' := (.array .int)) (by decide) (by decide)))
  have f198 := f185.other W195 (Or.inr (slot_ne (Or.inr (hw _ (List.mem_of_getElem? (i := 19) rfl))) (Or.inr (hw _ (List.mem_of_getElem? (i := 29) rfl))) (by decide) (t := (.array .double)) (t' := (.array .int)) (by decide) (by decide)))
  have f199 := f186.other W195 (Or.inr (slot_ne (Or.inr (hw _ (List.mem_of_getElem? (i := 21) rfl))) (Or.inr (hw _ (List.mem_of_getElem? (i := 29) rfl))) (by decide) (t := (.array .double)) (t' := (.array .int)) (by decide) (by decide)))
  have f200 := f187.other W195 (Or.inr (slot_ne (Or.inr (hw _ (List.mem_of_getElem? (i := 23) rfl))) (Or.inr (hw _ (List.mem_of_getElem? (i := 29) rfl))) (by decide) (t := (.array .int)) (t' := (.array .int)) (by decide) (by decide)))
  have f201 := f189.other W195 (Or.inr (slot_ne (Or.inr (hw _ (List.mem_of_getElem? (i := 31) rfl))) (Or.inr (hw _ (List.mem_of_getElem? (i := 29) rfl))) (by decide) (t := (.array .int)) (t' := (.array .int)) (by decide) (by decide)))
  have f202 := f190.other W195 (Or.inr (slot_ne (Or.inr (hw _ (List.mem_of_getElem? (i := 33) rfl))) (Or.inr (hw _ (List.mem_of_getElem? (i := 29) rfl))) (by decide) (t := (.array .int)) (t' := (.array .int)) (by decide) (by decide)))
  have f203 := f191.other W195 (Ne.symm n1)
  have f204 := f192.other W195 (Ne.symm n2)
  have f205 := f193.other W195 (Ne.symm n3)
  have f206 := f194.other W195 (Ne.symm ne136)
  have f207 := A177.other W195 (Ne.symm ne178)
  have K195 : Keep h0 h195 [ao] := K177.wr W195 (Or.inl (List.mem_of_getElem? (i := 0) rfl))
  refine W.s1 (mkF m 44 #[.val (.ref ao), .val (.int (3 : Int32)), .val (.ref zb), .val (.ref zx), .val (.ref zy)] [(.ref ao)]) (fun _ kx_ => XS.aloadN X195.here hx rfl (hb hby d2_43) rfl rfl kx_) ?_
  refine W.getf X195 hx hZ hown (host := "") (Or.inl (hw _ (List.mem_of_getElem? (i := 28) rfl))) Via.refl e195 fw195 (hb hby d2_44) (pc' := 47) rfl (fun T208 X208 e208 => ?_)
  refine W.s1 (mkF m 48 #[.val (.ref ao), .val (.int (3 : Int32)), .val (.ref zb), .val (.ref zx), .val (.ref zy)] [(.int (-1 : Int32)), (.ref zd)]) (fun _ kx_ => XS.iconst X208.here hx rfl (hb hby d2_47) kx_) ?_
  obtain ⟨_, _, ⟨T209, L209, k209, n209⟩, -, X209, ⟨Lc209, hQ209, l209, y209, z209⟩, st209⟩ := Jvm.LawKit.callS X208 hx (y := (⟨"java/util/Arrays", "fill", "([II)V"⟩ : MethodName)) hown (mvT hZ (hw _ (List.mem_of_getElem? (i := 24) rfl))) (mvT hZ (hw _ (List.mem_of_getElem? (i := 25) rfl))) (mvT hZ (hw _ (List.mem_of_getElem? (i := 26) rfl))) (mvT hZ (hw _ (List.mem_of_getElem? (i := 27) rfl))) (by decide) (backOf (W := 0) (rm4 l Z a0 hw [] zd (-1 : Int32) 3 (3 : Int32) (fun _ => 0) h195 n0 Z195 rfl f207 ge177) hZ (hw _ (List.mem_of_getElem? (i := 27) rfl)) (hw _ (List.mem_of_getElem? (i := 26) rfl)) (by decide) (by decide)) (g := (mkF m 48 #[.val (.ref ao), .val (.int (3 : Int32)), .val (.ref zb), .val (.ref zx), .val (.ref zy)] [(.int (-1 : Int32)), (.ref zd)])) rfl (by rw [hml]; rfl) (argsL := [(.ref zd), (.int (-1 : Int32))]) (rest := []) (lenOf pd_0 rfl) rfl (by show 2 * 0 + _ ≤ _; exact Nat.le_of_eq rfl) (hb hby d2_48) (fun _ _ => ⟨rfl, e208, (by decide : 2 + 0 ≤ _), (by decide : 5 + 0 ≤ _)⟩)
  dsimp only [Pt.U, Pt.locs, Pt.cells, Pt.slots] at X209 l209 y209 z209 st209 hQ209
  subst l209 y209 z209
  obtain ⟨h209, e209⟩ : ∃ z, T209.heap = z := ⟨_, rfl⟩
  rw [e209] at hQ209
  obtain ⟨rfl, Nq209, Kq209, A209⟩ := hQ209
  have N209 := Fr.app N195 Nq209
  have Z209 : n0 ≤ h209.size := Nat.le_trans Z195 Kq209.1
  have K209 : Keep h0 h209 [ao] := K195.trans Kq209 (allS (Or.inr sz177) all0)
  have f210 := f196.keep Kq209
  have f211 := f197.keep Kq209 (ninS ne178 nin0)
  have f212 := f198.keep Kq209 (ninS ne178 nin0)
  have f213 := f199.keep Kq209 (ninS ne178 nin0)
  have f214 := f200.keep Kq209 (ninS ne178 nin0)
  have f215 := fw195.keep Kq209 (ninS ne178 nin0)
  have f216 := f201.keep Kq209 (ninS ne178 nin0)
  have f217 := f202.keep Kq209 (ninS ne178 nin0)
  have f218 := f203.keep Kq209 (ninS ne179 nin0)
  have f219 := f204.keep Kq209 (ninS ne180 nin0)
  have f220 := f205.keep Kq209 (ninS ne181 nin0)
  have f221 := f206.keep Kq209 (ninS ne182 nin0)
  refine W.s2 (mkF m 51 #[.val (.ref ao), .val (.int (3 : Int32)), .val (.ref zb), .val (.ref zx), .val (.ref zy)] []) st209 ?_
  refine W.s1 (mkF m 52 #[.val (.ref ao), .val (.int (3 : Int32)), .val (.ref zb), .val (.ref zx), .val (.ref zy)] [(.ref ao)]) (fun _ kx_ => XS.aloadN X209.here hx rfl (hb hby d2_51) rfl rfl kx_) ?_
  refine W.s1 (mkF m 53 #[.val (.ref ao), .val (.int (3 : Int32)), .val (.ref zb), .val (.ref zx), .val (.ref zy)] [(.int (3 : Int32)), (.ref ao)]) (fun _ kx_ => XS.iloadN X209.here hx rfl (hb hby d2_52) rfl kx_) ?_
  refine W.newi X209 hx hZ (ty := .int) (aty := .int) (hw _ (List.mem_of_getElem? (i := 5) rfl)) rfl rfl e209 (hb hby d2_53) (n := 3) rfl (cap := 3) (Nat.le_refl _) (by decide) (by decide) (by decide) (pc' := 55) rfl (fun T223 h223 zn X223 e223 E223 g223 A223 => ?_)
  have ne224 : ao ≠ zn := Nat.ne_of_lt (Nat.lt_of_lt_of_le f210.lt (Nat.le_of_eq g223.symm))
  have ne225 : zb ≠ zn := Nat.ne_of_lt (Nat.lt_of_lt_of_le f218.lt (Nat.le_of_eq g223.symm))
  have ne226 : zx ≠ zn := Nat.ne_of_lt (Nat.lt_of_lt_of_le f219.lt (Nat.le_of_eq g223.symm))
  have ne227 : zy ≠ zn := Nat.ne_of_lt (Nat.lt_of_lt_of_le f220.lt (Nat.le_of_eq g223.symm))
  have ne228 : zf ≠ zn := Nat.ne_of_lt (Nat.lt_of_lt_of_le f221.lt (Nat.le_of_eq g223.symm))
  have ne229 : zd ≠ zn := Nat.ne_of_lt (Nat.lt_of_lt_of_le A209.lt (Nat.le_of_eq g223.symm))
  have ge223 : n0 ≤ zn := Nat.le_trans Z209 (Nat.le_of_eq g223.symm)
  have sz223 : h0.size ≤ zn := Nat.le_trans K209.1 (Nat.le_of_eq g223.symm)
  have Z223 : n0 ≤ h223.size := Nat.le_trans Z209 E223.1
  have K223 : Keep h0 h223 [ao] := K209.ext E223
  have f230 := f210.ext E223
  have f231 := f211.ext E223
  have f232 := f212.ext E223
  have f233 := f213.ext E223
  have f234 := f214.ext E223
  have f235 := f215.ext E223
  have f236 := f216.ext E223
  have f237 := f217.ext E223
  have f238 := f218.ext E223
  have f239 := f219.ext E223
  have f240 := f220.ext E223
  have f241 := f221.ext E223
  have f242 := A209.ext E223
  refine W.putf X223 hx hZ hown (host := "") (Or.inl (hw _ (List.mem_of_getElem? (i := 30) rfl))) Via.refl e223 f236 f230 (Or.inr ⟨(hw _ (List.mem_of_getElem? (i := 31) rfl)), rfl, hnm⟩) (hw _ (List.mem_of_getElem? (i := 7) rfl)) (ty := (.array .int)) (by decide) rfl rfl N209 g0 (hb hby d2_55) (pc' := 58) rfl (fun T243 h243 L243 X243 e243 W243 fw243 N243 => ?_)
  have Z243 : n0 ≤ h243.size := Nat.le_trans Z223 (Keep.of_wr W243).1
  have f244 := f230.wr W243
  have f245 := f231.other W243 (Or.inr (slot_ne (Or.inr (hw _ (List.mem_of_getElem? (i := 17) rfl))) (Or.inr (hw _ (List.mem_of_getElem? (i := 31) rfl))) (by decide) (t := (.array .int)) (t' := (.array .int)) (by decide) (by decide)))
  have f246 := f232.other W243 (Or.inr (slot_ne (Or.inr (hw _ (List.mem_of_getElem? (i := 19) rfl))) (Or.inr (hw _ (List.mem_of_getElem? (i := 31) rfl))) (by decide) (t := (.array .double)) (t' := (.array .int)) (by decide) (by decide)))
  have f247 := f233.other W243 (Or.inr (slot_ne (Or.inr (hw _ (List.mem_of_getElem? (i := 21) rfl))) (Or.inr (hw _ (List.mem_of_getElem? (i := 31) rfl))) (by decide) (t := (.array .double)) (t' := (.array .int)) (by decide) (by decide)))
  have f248 := f234.other W243 (Or.inr (slot_ne (Or.inr (hw _ (List.mem_of_getElem? (i := 23) rfl))) (Or.inr (hw _ (List.mem_of_getElem? (i := 31) rfl))) (by decide) (t := (.array .int)) (t' := (.array .int)) (by decide) (by decide)))
  have f249 := f235.other W243 (Or.inr (slot_ne (Or.inr (hw _ (List.mem_of_getElem? (i := 29) rfl))) (Or.inr (hw _ (List.mem_of_getElem? (i := 31) rfl))) (by decide) (t := (.array .int)) (t' := (.array .int)) (by decide) (by decide)))
  have f250 := f237.other W243 (Or.inr (slot_ne (Or.inr (hw _ (List.mem_of_getElem? (i := 33) rfl))) (Or.inr (hw _ (List.mem_of_getElem? (i := 31) rfl))) (by decide) (t := (.array .int)) (t' := (.array .int)) (by decide) (by decide)))
  have f251 := f238.other W243 (Ne.symm n1)
  have f252 := f239.other W243 (Ne.symm n2)
  have f253 := f240.other W243 (Ne.symm n3)
  have f254 := f241.other W243 (Ne.symm ne136)
  have f255 := f242.other W243 (Ne.symm ne178)
  have f256 := A223.other W243 (Ne.symm ne224)
  have K243 : Keep h0 h243 [ao] := K223.wr W243 (Or.inl (List.mem_of_getElem? (i := 0) rfl))
  refine W.s1 (mkF m 59 #[.val (.ref ao), .val (.int (3 : Int32)), .val (.ref zb), .val (.ref zx), .val (.ref zy)] [(.ref ao)]) (fun _ kx_ => XS.aloadN X243.here hx rfl (hb hby d2_58) rfl rfl kx_) ?_
  refine W.s1 (mkF m 60 #[.val (.ref ao), .val (.int (3 : Int32)), .val (.ref zb), .val (.ref zx), .val (.ref zy)] [(.int (3 : Int32)), (.ref ao)]) (fun _ kx_ => XS.iloadN X243.here hx rfl (hb hby d2_59) rfl kx_) ?_
  refine W.newi X243 hx hZ (ty := .int) (aty := .int) (hw _ (List.mem_of_getElem? (i := 5) rfl)) rfl rfl e243 (hb hby d2_60) (n := 3) rfl (cap := 3) (Nat.le_refl _) (by decide) (by decide) (by decide) (pc' := 62) rfl (fun T257 h257 zp X257 e257 E257 g257 A257 => ?_)
  have ne258 : ao ≠ zp := Nat.ne_of_lt (Nat.lt_of_lt_of_le f244.lt (Nat.le_of_eq g257.symm))
  have ne259 : zb ≠ zp := Nat.ne_of_lt (Nat.lt_of_lt_of_le f251.lt (Nat.le_of_eq g257.symm))
  have ne260 : zx ≠ zp := Nat.ne_of_lt (Nat.lt_of_lt_of_le f252.lt (Nat.le_of_eq g257.symm))
  have ne261 : zy ≠ zp := Nat.ne_of_lt (Nat.lt_of_lt_of_le f253.lt (Nat.le_of_eq g257.symm))
  have ne262 : zf ≠ zp := Nat.ne_of_lt (Nat.lt_of_lt_of_le f254.lt (Nat.le_of_eq g257.symm))
  have ne263 : zd ≠ zp := Nat.ne_of_lt (Nat.lt_of_lt_of_le f255.lt (Nat.le_of_eq g257.symm))
  have ne264 : zn ≠ zp := Nat.ne_of_lt (Nat.lt_of_lt_of_le f256.lt (Nat.le_of_eq g257.symm))
  have ge257 : n0 ≤ zp := Nat.le_trans Z243 (Nat.le_of_eq g257.symm)
  have sz257 : h0.size ≤ zp := Nat.le_trans K243.1 (Nat.le_of_eq g257.symm)
  have Z257 : n0 ≤ h257.size := Nat.le_trans Z243 E257.1
  have K257 : Keep h0 h257 [ao] := K243.ext E257
  have f265 := f244.ext E257
  have f266 := f245.ext E257
  have f267 := f246.ext E257
  have f268 := f247.ext E257
  have f269 := f248.ext E257
  have f270 := f249.ext E257
  have f271 := fw243.ext E257
  have f272 := f250.ext E257
  have f273 := f251.ext E257
  have f274 := f252.ext E257
  have f275 := f253.ext E257
  have f276 := f254.ext E257
  have f277 := f255.ext E257
  have f278 := f256.ext E257
  refine W.putf X257 hx hZ hown (host := "") (Or.inl (hw _ (List.mem_of_getElem? (i := 32) rfl))) Via.refl e257 f272 f265 (Or.inr ⟨(hw _ (List.mem_of_getElem? (i := 33) rfl)), rfl, hnm⟩) (hw _ (List.mem_of_getElem? (i := 7) rfl)) (ty := (.array .int)) (by decide) rfl rfl N243 g0 (hb hby d2_62) (pc' := 65) rfl (fun T279 h279 L279 X279 e279 W279 fw279 N279 => ?_)
  have Z279 : n0 ≤ h279.size := Nat.le_trans Z257 (Keep.of_wr W279).1
  have f280 := f265.wr W279
  have f281 := f266.other W279 (Or.inr (slot_ne (Or.inr (hw _ (List.mem_of_getElem? (i := 17) rfl))) (Or.inr (hw _ (List.mem_of_getElem? (i := 33) rfl))) (by decide) (t := (.array .int)) (t' := (.array .int)) (by decide) (by decide)))
  have f282 := f267.other W279 (Or.inr (slot_ne (Or.inr (hw _ (List.mem_of_getElem? (i := 19) rfl))) (Or.inr (hw _ (List.mem_of_getElem? (i := 33) rfl))) (by decide) (t := (.array .double)) (t' := (.array .int)) (by decide) (by decide)))
  have f283 := f268.other W279 (Or.inr (slot_ne (Or.inr (hw _ (List.mem_of_getElem? (i := 21) rfl))) (Or.inr (hw _ (List.mem_of_getElem? (i := 33) rfl))) (by decide) (t := (.array .double)) (t' := (.array .int)) (by decide) (by decide)))
  have f284 := f269.other W279 (Or.inr (slot_ne (Or.inr (hw _ (List.mem_of_getElem? (i := 23) rfl))) (Or.inr (hw _ (List.mem_of_getElem? (i := 33) rfl))) (by decide) (t := (.array .int)) (t' := (.array .int)) (by decide) (by decide)))
  have f285 := f270.other W279 (Or.inr (slot_ne (Or.inr (hw _ (List.mem_of_getElem? (i := 29) rfl))) (Or.inr (hw _ (List.mem_of_getElem? (i := 33) rfl))) (by decide) (t := (.array .int)) (t' := (.array .int)) (by decide) (by decide)))
  have f286 := f271.other W279 (Or.inr (slot_ne (Or.inr (hw _ (List.mem_of_getElem? (i := 31) rfl))) (Or.inr (hw _ (List.mem_of_getElem? (i := 33) rfl))) (by decide) (t := (.array .int)) (t' := (.array .int)) (by decide) (by decide)))
  have f287 := f273.other W279 (Ne.symm n1)
  have f288 := f274.other W279 (Ne.symm n2)
  have f289 := f275.other W279 (Ne.symm n3)
  have f290 := f276.other W279 (Ne.symm ne136)
  have f291 := f277.other W279 (Ne.symm ne178)
  have f292 := f278.other W279 (Ne.symm ne224)
  have f293 := A257.other W279 (Ne.symm ne258)
  have K279 : Keep h0 h279 [ao] := K257.wr W279 (Or.inl (List.mem_of_getElem? (i := 0) rfl))
  exact W.ret0 X279 hx hlk Bd.returns (hb hby d2_65) (by show Q2 Z ao zb zx zy u_byPlace u_x u_y u_firstDue u_dueAt u_next u_previous h0 n0 _ T279.heap _; rw [e279]; exact ⟨rfl, N279, K279, zf, zd, zn, zp, sz135, sz177, sz223, sz257, ⟨n1, n2, n3, ne136, ne178, ne224, ne258, n4, n5, ne137, ne179, ne225, ne259, n6, ne138, ne180, ne226, ne260, ne139, ne181, ne227, ne261, ne182, ne228, ne262, ne229, ne263, ne264⟩, ⟨g0, gb, gx, gy, ge135, ge177, ge223, ge257⟩, ⟨f280, f281, f282, f283, f284, f285, f286, fw279, f287, f288, f289, f290, f291, f292, f293⟩⟩) (by decide) (by decide)
theorem ef_8_00 (m : MethodId) (x0 : Addr) (x1 : Int32) (x2 : UInt64) (x3 : UInt64) : entryFrame m #[(.ref x0), (.int x1), (.double x2), (.double x3)] 7 = mkF m 0 #[.val (.ref x0), .val (.int x1), .val (.double x2), .second, .val (.double x3), .second, .unset] [] := by first | (simp [entryFrame, mkF, argsToLocals, Value.category]; done) | rfl
theorem d8_0 : decode prog_7_method_6_code 0 = .ok (.aload_n 0, 1) := by decide +kernel
theorem d8_1 : decode prog_7_method_6_code 1 = .ok (.getfield 7, 3) := by decide +kernel
theorem d8_4 : decode prog_7_method_6_code 4 = .ok (.iload_n 1, 1) := by decide +kernel
theorem d8_5 : decode prog_7_method_6_code 5 = .ok (.iaload, 1) := by decide +kernel
theorem d8_6 : decode prog_7_method_6_code 6 = .ok (.istore 6, 2) := by decide +kernel
theorem d8_8 : decode prog_7_method_6_code 8 = .ok (.aload_n 0, 1) := by decide +kernel
theorem d8_9 : decode prog_7_method_6_code 9 = .ok (.getfield 13, 3) := by decide +kernel
theorem d8_12 : decode prog_7_method_6_code 12 = .ok (.iload 6, 2) := by decide +kernel
theorem d8_14 : decode prog_7_method_6_code 14 = .ok (.daload, 1) := by decide +kernel
theorem d8_15 : decode prog_7_method_6_code 15 = .ok (.dload_n 2, 1) := by decide +kernel
theorem d8_16 : decode prog_7_method_6_code 16 = .ok (.dcmp .g, 1) := by decide +kernel
theorem d8_17 : decode prog_7_method_6_code 17 = .ok (.ifCond .lt 28, 3) := by decide +kernel
theorem d8_20 : decode prog_7_method_6_code 20 = .ok (.aload_n 0, 1) := by decide +kernel
theorem d8_21 : decode prog_7_method_6_code 21 = .ok (.getfield 13, 3) := by decide +kernel
theorem d8_24 : decode prog_7_method_6_code 24 = .ok (.iload 6, 2) := by decide +kernel
theorem d8_26 : decode prog_7_method_6_code 26 = .ok (.daload, 1) := by decide +kernel
theorem d8_27 : decode prog_7_method_6_code 27 = .ok (.dload_n 2, 1) := by decide +kernel
theorem d8_28 : decode prog_7_method_6_code 28 = .ok (.dcmp .l, 1) := by decide +kernel
theorem d8_29 : decode prog_7_method_6_code 29 = .ok (.ifCond .ne 20, 3) := by decide +kernel
theorem d8_32 : decode prog_7_method_6_code 32 = .ok (.aload_n 0, 1) := by decide +kernel
theorem d8_33 : decode prog_7_method_6_code 33 = .ok (.getfield 17, 3) := by decide +kernel
theorem d8_36 : decode prog_7_method_6_code 36 = .ok (.iload 6, 2) := by decide +kernel
theorem d8_38 : decode prog_7_method_6_code 38 = .ok (.daload, 1) := by decide +kernel
theorem d8_39 : decode prog_7_method_6_code 39 = .ok (.dload 4, 2) := by decide +kernel
theorem d8_41 : decode prog_7_method_6_code 41 = .ok (.dcmp .g, 1) := by decide +kernel
theorem d8_42 : decode prog_7_method_6_code 42 = .ok (.ifCond .ge 7, 3) := by decide +kernel
theorem d8_49 : decode prog_7_method_6_code 49 = .ok (.iconst 0, 1) := by decide +kernel
theorem d8_50 : decode prog_7_method_6_code 50 = .ok (.ireturn, 1) := by decide +kernel
def Q8_00 (Z : State) (ao : Addr) (zb : Addr) (zx : Addr) (zy : Addr) (zf : Addr) (zd : Addr) (zn : Addr) (zp : Addr) (S : own_S) (h0 : Heap) (n0 : Nat) (v : Option Value) (h : Heap) (L : List Loc) : Prop := v = some (.int 0) ∧ Fr n0 L ∧ h = h0
set_option maxRecDepth 65536 in
set_option maxHeartbeats 40000000 in
theorem rm8_00 (l : Launch) (Z : State) (a0 : Array Value) (hw : ∀ d ∈ tables_1, d.before a0 Z = true) (ws : List Jvm.Cond) (ao : Addr) (zb : Addr) (zx : Addr) (zy : Addr) (zf : Addr) (zd : Addr) (zn : Addr) (zp : Addr) (S : own_S) (h0 : Heap) (n0 : Nat) (Z0 : n0 ≤ h0.size) (H0 : own_PC Z h0 ao zb zx zy zf zd zn zp S) :
    MetFree l (⟨"com/example/stummel/stummel/geometry/PendingCrossings", "comesBefore", "(IDD)Z"⟩ : MethodName) (head1 (Jvm.Cond.code (⟨"com/example/stummel/stummel/geometry/PendingCrossings", "comesBefore", "(IDD)Z"⟩ : MethodName) prog_7_method_6_code 7 (some .boolean) :: ws) ({ frames := 0, cells := 0, slots := 0, locals := 0 } : Room)) (fun a U => a = #[(.ref ao), (.int (0 : Int32)), (.double (FP.l2d (0 : Int64))), (.double (FP.l2d (0 : Int64)))] ∧ Z.Warmed39 U.vm ∧ U.heap = h0) (fun _ _ _ _ _ => True) (fun _ U o U' => ∃ v L, o = .returned v ∧ Q8_00 Z ao zb zx zy zf zd zn zp S h0 n0 v U'.heap L ∧ FrameEnd U o U' L ({ frames := 0, cells := 0, slots := 0, locals := 0 } : Room).cells ({ frames := 0, cells := 0, slots := 0, locals := 0 } : Room).slots) := by
  refine MetFree.of_bodySF (plainFor_of_name pn_2) hisR ?_
  intro p e s m args below meth c s₁ Bd hml0 hP hK
  obtain ⟨rfl, hZ, hh⟩ := hP
  have hx := Bd.exec
  have hby := Bd.bytes
  have hml : c.maxLocals = 7 := hml0
  have hown : s.vm.findClass "com/example/stummel/stummel/geometry/PendingCrossings" = some m.cls := findClass_of_methodNamed Bd.named
  have hnm := (name_of_methodNamed Bd.named Bd.method).1
  have hlk : meth.locks = false := BodyLoose.notSynchronized Bd
  have X0 : Stand p l e ({ frames := 0, cells := 0, slots := 0, locals := 0 } : Room) s m #[(.ref ao), (.int (0 : Int32)), (.double (FP.l2d (0 : Int64))), (.double (FP.l2d (0 : Int64)))] below meth c s₁ [] 0 0 := Stand.of_body Bd
  have e0 : s₁.heap = h0 := by rw [← hh, Bd.state]; rfl
  have N0 := Fr.nil n0
  show W.Gl p e below s (Q8_00 Z ao zb zx zy zf zd zn zp S h0 n0) ({ frames := 0, cells := 0, slots := 0, locals := 0 } : Room).cells ({ frames := 0, cells := 0, slots := 0, locals := 0 } : Room).slots s₁ (entryFrame m #[(.ref ao), (.int (0 : Int32)), (.double (FP.l2d (0 : Int64))), (.double (FP.l2d (0 : Int64)))] 7)
  refine W.cast (ef_8_00 m ao (0 : Int32) (FP.l2d (0 : Int64)) (FP.l2d (0 : Int64))) ?_
  obtain ⟨ue, ur0, ur1, ur2, ur3, ur4, ur5, ur6, ua0, ua1, ua2, ua3, ua4, ua5, ua6⟩ := H0
  refine W.s1 (mkF m 1 #[.val (.ref ao), .val (.int (0 : Int32)), .val (.double (FP.l2d (0 : Int64))), .second, .val (.double (FP.l2d (0 : Int64))), .second, .unset] [(.ref ao)]) (fun _ kx_ => XS.aloadN X0.here hx rfl (hb hby d8_0) rfl rfl kx_) ?_
  refine W.getf X0 hx hZ hown (host := "") (Or.inl (hw _ (List.mem_of_getElem? (i := 16) rfl))) Via.refl e0 ur0 (hb hby d8_1) (pc' := 4) rfl (fun T101 X101 e101 => ?_)
  refine W.s1 (mkF m 5 #[.val (.ref ao), .val (.int (0 : Int32)), .val (.double (FP.l2d (0 : Int64))), .second, .val (.double (FP.l2d (0 : Int64))), .second, .unset] [(.int (0 : Int32)), (.ref zb)]) (fun _ kx_ => XS.iloadN X101.here hx rfl (hb hby d8_4) rfl kx_) ?_
  refine W.ldi X101 hx hZ e101 ua0 0 rfl (by first | decide | simp) (hb hby d8_5) (pc' := 6) rfl ?_
  rw [show ((W.up (W.up (fun _ => 0) 0 (0 : Int32)) 1 (1 : Int32)) 0) = (0 : Int32) from by first | exact (W.up_other _ _ (by decide)).trans (W.up_same _ _ _) | exact W.up_same _ _ _ | rfl]
  refine W.s1 (mkF m 8 #[.val (.ref ao), .val (.int (0 : Int32)), .val (.double (FP.l2d (0 : Int64))), .second, .val (.double (FP.l2d (0 : Int64))), .second, .val (.int (0 : Int32))] []) (fun _ kx_ => XS.istore X101.here hx rfl (hb hby d8_6) rfl (l' := #[.val (.ref ao), .val (.int (0 : Int32)), .val (.double (FP.l2d (0 : Int64))), .second, .val (.double (FP.l2d (0 : Int64))), .second, .val (.int (0 : Int32))]) rfl kx_) ?_
  refine W.s1 (mkF m 9 #[.val (.ref ao), .val (.int (0 : Int32)), .val (.double (FP.l2d (0 : Int64))), .second, .val (.double (FP.l2d (0 : Int64))), .second, .val (.int (0 : Int32))] [(.ref ao)]) (fun _ kx_ => XS.aloadN X101.here hx rfl (hb hby d8_8) rfl rfl kx_) ?_
  refine W.getf X101 hx hZ hown (host := "") (Or.inl (hw _ (List.mem_of_getElem? (i := 18) rfl))) Via.refl e101 ur1 (hb hby d8_9) (pc' := 12) rfl (fun T102 X102 e102 => ?_)
  refine W.s1 (mkF m 14 #[.val (.ref ao), .val (.int (0 : Int32)), .val (.double (FP.l2d (0 : Int64))), .second, .val (.double (FP.l2d (0 : Int64))), .second, .val (.int (0 : Int32))] [(.int (0 : Int32)), (.ref zx)]) (fun _ kx_ => XS.iload X102.here hx rfl (hb hby d8_12) rfl kx_) ?_
  refine W.ldd X102 hx hZ e102 ua1 0 rfl (by first | decide | simp) (hb hby d8_14) (pc' := 15) rfl ?_
  rw [show ((W.up (W.up (fun _ => 0) 0 (FP.l2d (0 : Int64))) 1 (FP.l2d (1 : Int64))) 0) = (FP.l2d (0 : Int64)) from by first | exact (W.up_other _ _ (by decide)).trans (W.up_same _ _ _) | exact W.up_same _ _ _ | rfl]
  refine W.s1 (mkF m 16 #[.val (.ref ao), .val (.int (0 : Int32)), .val (.double (FP.l2d (0 : Int64))), .second, .val (.double (FP.l2d (0 : Int64))), .second, .val (.int (0 : Int32))] [(.double (FP.l2d (0 : Int64))), (.double (FP.l2d (0 : Int64)))]) (fun _ kx_ => XS.dloadN X102.here hx rfl (hb hby d8_15) rfl kx_) ?_
  refine W.s1 (mkF m 17 #[.val (.ref ao), .val (.int (0 : Int32)), .val (.double (FP.l2d (0 : Int64))), .second, .val (.double (FP.l2d (0 : Int64))), .second, .val (.int (0 : Int32))] [(.int (0 : Int32))]) (fun _ kx_ => XS.dcmpS X102.here hx rfl (hb hby d8_16) rfl ((dcmpV_w ⟨by first | decide | decide +kernel, by first | decide | decide +kernel⟩ ⟨by first | decide | decide +kernel, by first | decide | decide +kernel⟩ _).trans (by first | decide | decide +kernel)) kx_) ?_
  refine W.ifc X102 hx (hb hby d8_17) (pc' := 45) (pc'' := 20) (by decide) (by decide) rfl (fun (c17 : (0 : Int32) < (0 : Int32)) => ?_) (fun (c17 : ¬ (0 : Int32) < (0 : Int32)) => ?_)
  · exact absurd c17 (by decide)
  · refine W.s1 (mkF m 21 #[.val (.ref ao), .val (.int (0 : Int32)), .val (.double (FP.l2d (0 : Int64))), .second, .val (.double (FP.l2d (0 : Int64))), .second, .val (.int (0 : Int32))] [(.ref ao)]) (fun _ kx_ => XS.aloadN X102.here hx rfl (hb hby d8_20) rfl rfl kx_) ?_
    refine W.getf X102 hx hZ hown (host := "") (Or.inl (hw _ (List.mem_of_getElem? (i := 18) rfl))) Via.refl e102 ur1 (hb hby d8_21) (pc' := 24) rfl (fun T103 X103 e103 => ?_)
    refine W.s1 (mkF m 26 #[.val (.ref ao), .val (.int (0 : Int32)), .val (.double (FP.l2d (0 : Int64))), .second, .val (.double (FP.l2d (0 : Int64))), .second, .val (.int (0 : Int32))] [(.int (0 : Int32)), (.ref zx)]) (fun _ kx_ => XS.iload X103.here hx rfl (hb hby d8_24) rfl kx_) ?_
    refine W.ldd X103 hx hZ e103 ua1 0 rfl (by first | decide | simp) (hb hby d8_26) (pc' := 27) rfl ?_
    rw [show ((W.up (W.up (fun _ => 0) 0 (FP.l2d (0 : Int64))) 1 (FP.l2d (1 : Int64))) 0) = (FP.l2d (0 : Int64)) from by first | exact (W.up_other _ _ (by decide)).trans (W.up_same _ _ _) | exact W.up_same _ _ _ | rfl]
    refine W.s1 (mkF m 28 #[.val (.ref ao), .val (.int (0 : Int32)), .val (.double (FP.l2d (0 : Int64))), .second, .val (.double (FP.l2d (0 : Int64))), .second, .val (.int (0 : Int32))] [(.double (FP.l2d (0 : Int64))), (.double (FP.l2d (0 : Int64)))]) (fun _ kx_ => XS.dloadN X103.here hx rfl (hb hby d8_27) rfl kx_) ?_
    refine W.s1 (mkF m 29 #[.val (.ref ao), .val (.int (0 : Int32)), .val (.double (FP.l2d (0 : Int64))), .second, .val (.double (FP.l2d (0 : Int64))), .second, .val (.int (0 : Int32))] [(.int (0 : Int32))]) (fun _ kx_ => XS.dcmpS X103.here hx rfl (hb hby d8_28) rfl ((dcmpV_w ⟨by first | decide | decide +kernel, by first | decide | decide +kernel⟩ ⟨by first | decide | decide +kernel, by first | decide | decide +kernel⟩ _).trans (by first | decide | decide +kernel)) kx_) ?_
    refine W.ifc X103 hx (hb hby d8_29) (pc' := 49) (pc'' := 32) (by decide) (by decide) rfl (fun (c29 : ¬ (0 : Int32) = (0 : Int32)) => ?_) (fun (c29 : (0 : Int32) = (0 : Int32)) => ?_)
    · exact absurd c29 (by decide)
    · refine W.s1 (mkF m 33 #[.val (.ref ao), .val (.int (0 : Int32)), .val (.double (FP.l2d (0 : Int64))), .second, .val (.double (FP.l2d (0 : Int64))), .second, .val (.int (0 : Int32))] [(.ref ao)]) (fun _ kx_ => XS.aloadN X103.here hx rfl (hb hby d8_32) rfl rfl kx_) ?_
      refine W.getf X103 hx hZ hown (host := "") (Or.inl (hw _ (List.mem_of_getElem? (i := 20) rfl))) Via.refl e103 ur2 (hb hby d8_33) (pc' := 36) rfl (fun T104 X104 e104 => ?_)
      refine W.s1 (mkF m 38 #[.val (.ref ao), .val (.int (0 : Int32)), .val (.double (FP.l2d (0 : Int64))), .second, .val (.double (FP.l2d (0 : Int64))), .second, .val (.int (0 : Int32))] [(.int (0 : Int32)), (.ref zy)]) (fun _ kx_ => XS.iload X104.here hx rfl (hb hby d8_36) rfl kx_) ?_
      refine W.ldd X104 hx hZ e104 ua2 0 rfl (by first | decide | simp) (hb hby d8_38) (pc' := 39) rfl ?_
      rw [show ((W.up (W.up (fun _ => 0) 0 (FP.l2d (0 : Int64))) 1 (FP.l2d (0 : Int64))) 0) = (FP.l2d (0 : Int64)) from by first | exact (W.up_other _ _ (by decide)).trans (W.up_same _ _ _) | exact W.up_same _ _ _ | rfl]
      refine W.s1 (mkF m 41 #[.val (.ref ao), .val (.int (0 : Int32)), .val (.double (FP.l2d (0 : Int64))), .second, .val (.double (FP.l2d (0 : Int64))), .second, .val (.int (0 : Int32))] [(.double (FP.l2d (0 : Int64))), (.double (FP.l2d (0 : Int64)))]) (fun _ kx_ => XS.dload X104.here hx rfl (hb hby d8_39) rfl kx_) ?_
      refine W.s1 (mkF m 42 #[.val (.ref ao), .val (.int (0 : Int32)), .val (.double (FP.l2d (0 : Int64))), .second, .val (.double (FP.l2d (0 : Int64))), .second, .val (.int (0 : Int32))] [(.int (0 : Int32))]) (fun _ kx_ => XS.dcmpS X104.here hx rfl (hb hby d8_41) rfl ((dcmpV_w ⟨by first | decide | decide +kernel, by first | decide | decide +kernel⟩ ⟨by first | decide | decide +kernel, by first | decide | decide +kernel⟩ _).trans (by first | decide | decide +kernel)) kx_) ?_
      refine W.ifc X104 hx (hb hby d8_42) (pc' := 49) (pc'' := 45) (by decide) (by decide) rfl (fun (c42 : ¬ (0 : Int32) < (0 : Int32)) => ?_) (fun (c42 : (0 : Int32) < (0 : Int32)) => ?_)
      · refine W.s1 (mkF m 50 #[.val (.ref ao), .val (.int (0 : Int32)), .val (.double (FP.l2d (0 : Int64))), .second, .val (.double (FP.l2d (0 : Int64))), .second, .val (.int (0 : Int32))] [(.int (0 : Int32))]) (fun _ kx_ => XS.iconst X104.here hx rfl (hb hby d8_49) kx_) ?_
        exact W.retZ X104 hx hlk (t := .boolean) (z' := (0 : Int32)) Bd.returns (by simp) (hb hby d8_50) rfl (by show Q8_00 Z ao zb zx zy zf zd zn zp S h0 n0 _ T104.heap _; rw [e104]; exact ⟨rfl, N0, rfl⟩) (by decide) (by decide)
      · exact absurd c42 (by decide)
theorem ef_8_01 (m : MethodId) (x0 : Addr) (x1 : Int32) (x2 : UInt64) (x3 : UInt64) : entryFrame m #[(.ref x0), (.int x1), (.double x2), (.double x3)] 7 = mkF m 0 #[.val (.ref x0), .val (.int x1), .val (.double x2), .second, .val (.double x3), .second, .unset] [] := by first | (simp [entryFrame, mkF, argsToLocals, Value.category]; done) | rfl
theorem d8_45 : decode prog_7_method_6_code 45 = .ok (.iconst 1, 1) := by decide +kernel
theorem d8_46 : decode prog_7_method_6_code 46 = .ok (.goto 4, 3) := by decide +kernel
def Q8_01 (Z : State) (ao : Addr) (zb : Addr) (zx : Addr) (zy : Addr) (zf : Addr) (zd : Addr) (zn : Addr) (zp : Addr) (S : own_S) (h0 : Heap) (n0 : Nat) (v : Option Value) (h : Heap) (L : List Loc) : Prop := v = some (.int 1) ∧ Fr n0 L ∧ h = h0
set_option maxRecDepth 65536 in
set_option maxHeartbeats 40000000 in
theorem rm8_01 (l : Launch) (Z : State) (a0 : Array Value) (hw : ∀ d ∈ tables_1, d.before a0 Z = true) (ws : List Jvm.Cond) (ao : Addr) (zb : Addr) (zx : Addr) (zy : Addr) (zf : Addr) (zd : Addr) (zn : Addr) (zp : Addr) (S : own_S) (h0 : Heap) (n0 : Nat) (Z0 : n0 ≤ h0.size) (H0 : own_PC Z h0 ao zb zx zy zf zd zn zp S) :
    MetFree l (⟨"com/example/stummel/stummel/geometry/PendingCrossings", "comesBefore", "(IDD)Z"⟩ : MethodName) (head1 (Jvm.Cond.code (⟨"com/example/stummel/stummel/geometry/PendingCrossings", "comesBefore", "(IDD)Z"⟩ : MethodName) prog_7_method_6_code 7 (some .boolean) :: ws) ({ frames := 0, cells := 0, slots := 0, locals := 0 } : Room)) (fun a U => a = #[(.ref ao), (.int (0 : Int32)), (.double (FP.l2d (1 : Int64))), (.double (FP.l2d (0 : Int64)))] ∧ Z.Warmed39 U.vm ∧ U.heap = h0) (fun _ _ _ _ _ => True) (fun _ U o U' => ∃ v L, o = .returned v ∧ Q8_01 Z ao zb zx zy zf zd zn zp S h0 n0 v U'.heap L ∧ FrameEnd U o U' L ({ frames := 0, cells := 0, slots := 0, locals := 0 } : Room).cells ({ frames := 0, cells := 0, slots := 0, locals := 0 } : Room).slots) := by
  refine MetFree.of_bodySF (plainFor_of_name pn_2) hisR ?_
  intro p e s m args below meth c s₁ Bd hml0 hP hK
  obtain ⟨rfl, hZ, hh⟩ := hP
  have hx := Bd.exec
  have hby := Bd.bytes
  have hml : c.maxLocals = 7 := hml0
  have hown : s.vm.findClass "com/example/stummel/stummel/geometry/PendingCrossings" = some m.cls := findClass_of_methodNamed Bd.named
  have hnm := (name_of_methodNamed Bd.named Bd.method).1
  have hlk : meth.locks = false := BodyLoose.notSynchronized Bd
  have X0 : Stand p l e ({ frames := 0, cells := 0, slots := 0, locals := 0 } : Room) s m #[(.ref ao), (.int (0 : Int32)), (.double (FP.l2d (1 : Int64))), (.double (FP.l2d (0 : Int64)))] below meth c s₁ [] 0 0 := Stand.of_body Bd
  have e0 : s₁.heap = h0 := by rw [← hh, Bd.state]; rfl
  have N0 := Fr.nil n0
  show W.Gl p e below s (Q8_01 Z ao zb zx zy zf zd zn zp S h0 n0) ({ frames := 0, cells := 0, slots := 0, locals := 0 } : Room).cells ({ frames := 0, cells := 0, slots := 0, locals := 0 } : Room).slots s₁ (entryFrame m #[(.ref ao), (.int (0 : Int32)), (.double (FP.l2d (1 : Int64))), (.double (FP.l2d (0 : Int64)))] 7)
  refine W.cast (ef_8_01 m ao (0 : Int32) (FP.l2d (1 : Int64)) (FP.l2d (0 : Int64))) ?_
  obtain ⟨ue, ur0, ur1, ur2, ur3, ur4, ur5, ur6, ua0, ua1, ua2, ua3, ua4, ua5, ua6⟩ := H0
  refine W.s1 (mkF m 1 #[.val (.ref ao), .val (.int (0 : Int32)), .val (.double (FP.l2d (1 : Int64))), .second, .val (.double (FP.l2d (0 : Int64))), .second, .unset] [(.ref ao)]) (fun _ kx_ => XS.aloadN X0.here hx rfl (hb hby d8_0) rfl rfl kx_) ?_
  refine W.getf X0 hx hZ hown (host := "") (Or.inl (hw _ (List.mem_of_getElem? (i := 16) rfl))) Via.refl e0 ur0 (hb hby d8_1) (pc' := 4) rfl (fun T101 X101 e101 => ?_)
  refine W.s1 (mkF m 5 #[.val (.ref ao), .val (.int (0 : Int32)), .val (.double (FP.l2d (1 : Int64))), .second, .val (.double (FP.l2d (0 : Int64))), .second, .unset] [(.int (0 : Int32)), (.ref zb)]) (fun _ kx_ => XS.iloadN X101.here hx rfl (hb hby d8_4) rfl kx_) ?_
  refine W.ldi X101 hx hZ e101 ua0 0 rfl (by first | decide | simp) (hb hby d8_5) (pc' := 6) rfl ?_
  rw [show ((W.up (W.up (fun _ => 0) 0 (0 : Int32)) 1 (1 : Int32)) 0) = (0 : Int32) from by first | exact (W.up_other _ _ (by decide)).trans (W.up_same _ _ _) | exact W.up_same _ _ _ | rfl]
  refine W.s1 (mkF m 8 #[.val (.ref ao), .val (.int (0 : Int32)), .val (.double (FP.l2d (1 : Int64))), .second, .val (.double (FP.l2d (0 : Int64))), .second, .val (.int (0 : Int32))] []) (fun _ kx_ => XS.istore X101.here hx rfl (hb hby d8_6) rfl (l' := #[.val (.ref ao), .val (.int (0 : Int32)), .val (.double (FP.l2d (1 : Int64))), .second, .val (.double (FP.l2d (0 : Int64))), .second, .val (.int (0 : Int32))]) rfl kx_) ?_
  refine W.s1 (mkF m 9 #[.val (.ref ao), .val (.int (0 : Int32)), .val (.double (FP.l2d (1 : Int64))), .second, .val (.double (FP.l2d (0 : Int64))), .second, .val (.int (0 : Int32))] [(.ref ao)]) (fun _ kx_ => XS.aloadN X101.here hx rfl (hb hby d8_8) rfl rfl kx_) ?_
  refine W.getf X101 hx hZ hown (host := "") (Or.inl (hw _ (List.mem_of_getElem? (i := 18) rfl))) Via.refl e101 ur1 (hb hby d8_9) (pc' := 12) rfl (fun T102 X102 e102 => ?_)
  refine W.s1 (mkF m 14 #[.val (.ref ao), .val (.int (0 : Int32)), .val (.double (FP.l2d (1 : Int64))), .second, .val (.double (FP.l2d (0 : Int64))), .second, .val (.int (0 : Int32))] [(.int (0 : Int32)), (.ref zx)]) (fun _ kx_ => XS.iload X102.here hx rfl (hb hby d8_12) rfl kx_) ?_
  refine W.ldd X102 hx hZ e102 ua1 0 rfl (by first | decide | simp) (hb hby d8_14) (pc' := 15) rfl ?_
  rw [show ((W.up (W.up (fun _ => 0) 0 (FP.l2d (0 : Int64))) 1 (FP.l2d (1 : Int64))) 0) = (FP.l2d (0 : Int64)) from by first | exact (W.up_other _ _ (by decide)).trans (W.up_same _ _ _) | exact W.up_same _ _ _ | rfl]
  refine W.s1 (mkF m 16 #[.val (.ref ao), .val (.int (0 : Int32)), .val (.double (FP.l2d (1 : Int64))), .second, .val (.double (FP.l2d (0 : Int64))), .second, .val (.int (0 : Int32))] [(.double (FP.l2d (1 : Int64))), (.double (FP.l2d (0 : Int64)))]) (fun _ kx_ => XS.dloadN X102.here hx rfl (hb hby d8_15) rfl kx_) ?_
  refine W.s1 (mkF m 17 #[.val (.ref ao), .val (.int (0 : Int32)), .val (.double (FP.l2d (1 : Int64))), .second, .val (.double (FP.l2d (0 : Int64))), .second, .val (.int (0 : Int32))] [(.int (-1 : Int32))]) (fun _ kx_ => XS.dcmpS X102.here hx rfl (hb hby d8_16) rfl ((dcmpV_w ⟨by first | decide | decide +kernel, by first | decide | decide +kernel⟩ ⟨by first | decide | decide +kernel, by first | decide | decide +kernel⟩ _).trans (by first | decide | decide +kernel)) kx_) ?_
  refine W.ifc X102 hx (hb hby d8_17) (pc' := 45) (pc'' := 20) (by decide) (by decide) rfl (fun (c17 : (-1 : Int32) < (0 : Int32)) => ?_) (fun (c17 : ¬ (-1 : Int32) < (0 : Int32)) => ?_)
  · refine W.s1 (mkF m 46 #[.val (.ref ao), .val (.int (0 : Int32)), .val (.double (FP.l2d (1 : Int64))), .second, .val (.double (FP.l2d (0 : Int64))), .second, .val (.int (0 : Int32))] [(.int (1 : Int32))]) (fun _ kx_ => XS.iconst X102.here hx rfl (hb hby d8_45) kx_) ?_
    refine W.s1 (mkF m 50 #[.val (.ref ao), .val (.int (0 : Int32)), .val (.double (FP.l2d (1 : Int64))), .second, .val (.double (FP.l2d (0 : Int64))), .second, .val (.int (0 : Int32))] [(.int (1 : Int32))]) (fun _ kx_ => XS.goto X102.here hx rfl (pc0 := 46) (pc' := 50) rfl (hb hby d8_46) (by decide) (by decide) kx_) ?_
    exact W.retZ X102 hx hlk (t := .boolean) (z' := (1 : Int32)) Bd.returns (by simp) (hb hby d8_50) rfl (by show Q8_01 Z ao zb zx zy zf zd zn zp S h0 n0 _ T102.heap _; rw [e102]; exact ⟨rfl, N0, rfl⟩) (by decide) (by decide)
  · exact absurd c17 (by decide)
theorem ef_8_11 (m : MethodId) (x0 : Addr) (x1 : Int32) (x2 : UInt64) (x3 : UInt64) : entryFrame m #[(.ref x0), (.int x1), (.double x2), (.double x3)] 7 = mkF m 0 #[.val (.ref x0), .val (.int x1), .val (.double x2), .second, .val (.double x3), .second, .unset] [] := by first | (simp [entryFrame, mkF, argsToLocals, Value.category]; done) | rfl
def Q8_11 (Z : State) (ao : Addr) (zb : Addr) (zx : Addr) (zy : Addr) (zf : Addr) (zd : Addr) (zn : Addr) (zp : Addr) (S : own_S) (h0 : Heap) (n0 : Nat) (v : Option Value) (h : Heap) (L : List Loc) : Prop := v = some (.int 0) ∧ Fr n0 L ∧ h = h0
set_option maxRecDepth 65536 in
set_option maxHeartbeats 40000000 in
theorem rm8_11 (l : Launch) (Z : State) (a0 : Array Value) (hw : ∀ d ∈ tables_1, d.before a0 Z = true) (ws : List Jvm.Cond) (ao : Addr) (zb : Addr) (zx : Addr) (zy : Addr) (zf : Addr) (zd : Addr) (zn : Addr) (zp : Addr) (S : own_S) (h0 : Heap) (n0 : Nat) (Z0 : n0 ≤ h0.size) (H0 : own_PC Z h0 ao zb zx zy zf zd zn zp S) :
    MetFree l (⟨"com/example/stummel/stummel/geometry/PendingCrossings", "comesBefore", "(IDD)Z"⟩ : MethodName) (head1 (Jvm.Cond.code (⟨"com/example/stummel/stummel/geometry/PendingCrossings", "comesBefore", "(IDD)Z"⟩ : MethodName) prog_7_method_6_code 7 (some .boolean) :: ws) ({ frames := 0, cells := 0, slots := 0, locals := 0 } : Room)) (fun a U => a = #[(.ref ao), (.int (1 : Int32)), (.double (FP.l2d (1 : Int64))), (.double (FP.l2d (0 : Int64)))] ∧ Z.Warmed39 U.vm ∧ U.heap = h0) (fun _ _ _ _ _ => True) (fun _ U o U' => ∃ v L, o = .returned v ∧ Q8_11 Z ao zb zx zy zf zd zn zp S h0 n0 v U'.heap L ∧ FrameEnd U o U' L ({ frames := 0, cells := 0, slots := 0, locals := 0 } : Room).cells ({ frames := 0, cells := 0, slots := 0, locals := 0 } : Room).slots) := by
  refine MetFree.of_bodySF (plainFor_of_name pn_2) hisR ?_
  intro p e s m args below meth c s₁ Bd hml0 hP hK
  obtain ⟨rfl, hZ, hh⟩ := hP
  have hx := Bd.exec
  have hby := Bd.bytes
  have hml : c.maxLocals = 7 := hml0
  have hown : s.vm.findClass "com/example/stummel/stummel/geometry/PendingCrossings" = some m.cls := findClass_of_methodNamed Bd.named
  have hnm := (name_of_methodNamed Bd.named Bd.method).1
  have hlk : meth.locks = false := BodyLoose.notSynchronized Bd
  have X0 : Stand p l e ({ frames := 0, cells := 0, slots := 0, locals := 0 } : Room) s m #[(.ref ao), (.int (1 : Int32)), (.double (FP.l2d (1 : Int64))), (.double (FP.l2d (0 : Int64)))] below meth c s₁ [] 0 0 := Stand.of_body Bd
  have e0 : s₁.heap = h0 := by rw [← hh, Bd.state]; rfl
  have N0 := Fr.nil n0
  show W.Gl p e below s (Q8_11 Z ao zb zx zy zf zd zn zp S h0 n0) ({ frames := 0, cells := 0, slots := 0, locals := 0 } : Room).cells ({ frames := 0, cells := 0, slots := 0, locals := 0 } : Room).slots s₁ (entryFrame m #[(.ref ao), (.int (1 : Int32)), (.double (FP.l2d (1 : Int64))), (.double (FP.l2d (0 : Int64)))] 7)
  refine W.cast (ef_8_11 m ao (1 : Int32) (FP.l2d (1 : Int64)) (FP.l2d (0 : Int64))) ?_
  obtain ⟨ue, ur0, ur1, ur2, ur3, ur4, ur5, ur6, ua0, ua1, ua2, ua3, ua4, ua5, ua6⟩ := H0
  refine W.s1 (mkF m 1 #[.val (.ref ao), .val (.int (1 : Int32)), .val (.double (FP.l2d (1 : Int64))), .second, .val (.double (FP.l2d (0 : Int64))), .second, .unset] [(.ref ao)]) (fun _ kx_ => XS.aloadN X0.here hx rfl (hb hby d8_0) rfl rfl kx_) ?_
  refine W.getf X0 hx hZ hown (host := "") (Or.inl (hw _ (List.mem_of_getElem? (i := 16) rfl))) Via.refl e0 ur0 (hb hby d8_1) (pc' := 4) rfl (fun T101 X101 e101 => ?_)
  refine W.s1 (mkF m 5 #[.val (.ref ao), .val (.int (1 : Int32)), .val (.double (FP.l2d (1 : Int64))), .second, .val (.double (FP.l2d (0 : Int64))), .second, .unset] [(.int (1 : Int32)), (.ref zb)]) (fun _ kx_ => XS.iloadN X101.here hx rfl (hb hby d8_4) rfl kx_) ?_
  refine W.ldi X101 hx hZ e101 ua0 1 rfl (by first | decide | simp) (hb hby d8_5) (pc' := 6) rfl ?_
  rw [show ((W.up (W.up (fun _ => 0) 0 (0 : Int32)) 1 (1 : Int32)) 1) = (1 : Int32) from by first | exact (W.up_other _ _ (by decide)).trans (W.up_same _ _ _) | exact W.up_same _ _ _ | rfl]
  refine W.s1 (mkF m 8 #[.val (.ref ao), .val (.int (1 : Int32)), .val (.double (FP.l2d (1 : Int64))), .second, .val (.double (FP.l2d (0 : Int64))), .second, .val (.int (1 : Int32))] []) (fun _ kx_ => XS.istore X101.here hx rfl (hb hby d8_6) rfl (l' := #[.val (.ref ao), .val (.int (1 : Int32)), .val (.double (FP.l2d (1 : Int64))), .second, .val (.double (FP.l2d (0 : Int64))), .second, .val (.int (1 : Int32))]) rfl kx_) ?_
  refine W.s1 (mkF m 9 #[.val (.ref ao), .val (.int (1 : Int32)), .val (.double (FP.l2d (1 : Int64))), .second, .val (.double (FP.l2d (0 : Int64))), .second, .val (.int (1 : Int32))] [(.ref ao)]) (fun _ kx_ => XS.aloadN X101.here hx rfl (hb hby d8_8) rfl rfl kx_) ?_
  refine W.getf X101 hx hZ hown (host := "") (Or.inl (hw _ (List.mem_of_getElem? (i := 18) rfl))) Via.refl e101 ur1 (hb hby d8_9) (pc' := 12) rfl (fun T102 X102 e102 => ?_)
  refine W.s1 (mkF m 14 #[.val (.ref ao), .val (.int (1 : Int32)), .val (.double (FP.l2d (1 : Int64))), .second, .val (.double (FP.l2d (0 : Int64))), .second, .val (.int (1 : Int32))] [(.int (1 : Int32)), (.ref zx)]) (fun _ kx_ => XS.iload X102.here hx rfl (hb hby d8_12) rfl kx_) ?_
  refine W.ldd X102 hx hZ e102 ua1 1 rfl (by first | decide | simp) (hb hby d8_14) (pc' := 15) rfl ?_
  rw [show ((W.up (W.up (fun _ => 0) 0 (FP.l2d (0 : Int64))) 1 (FP.l2d (1 : Int64))) 1) = (FP.l2d (1 : Int64)) from by first | exact (W.up_other _ _ (by decide)).trans (W.up_same _ _ _) | exact W.up_same _ _ _ | rfl]
  refine W.s1 (mkF m 16 #[.val (.ref ao), .val (.int (1 : Int32)), .val (.double (FP.l2d (1 : Int64))), .second, .val (.double (FP.l2d (0 : Int64))), .second, .val (.int (1 : Int32))] [(.double (FP.l2d (1 : Int64))), (.double (FP.l2d (1 : Int64)))]) (fun _ kx_ => XS.dloadN X102.here hx rfl (hb hby d8_15) rfl kx_) ?_
  refine W.s1 (mkF m 17 #[.val (.ref ao), .val (.int (1 : Int32)), .val (.double (FP.l2d (1 : Int64))), .second, .val (.double (FP.l2d (0 : Int64))), .second, .val (.int (1 : Int32))] [(.int (0 : Int32))]) (fun _ kx_ => XS.dcmpS X102.here hx rfl (hb hby d8_16) rfl ((dcmpV_w ⟨by first | decide | decide +kernel, by first | decide | decide +kernel⟩ ⟨by first | decide | decide +kernel, by first | decide | decide +kernel⟩ _).trans (by first | decide | decide +kernel)) kx_) ?_
  refine W.ifc X102 hx (hb hby d8_17) (pc' := 45) (pc'' := 20) (by decide) (by decide) rfl (fun (c17 : (0 : Int32) < (0 : Int32)) => ?_) (fun (c17 : ¬ (0 : Int32) < (0 : Int32)) => ?_)
  · exact absurd c17 (by decide)
  · refine W.s1 (mkF m 21 #[.val (.ref ao), .val (.int (1 : Int32)), .val (.double (FP.l2d (1 : Int64))), .second, .val (.double (FP.l2d (0 : Int64))), .second, .val (.int (1 : Int32))] [(.ref ao)]) (fun _ kx_ => XS.aloadN X102.here hx rfl (hb hby d8_20) rfl rfl kx_) ?_
    refine W.getf X102 hx hZ hown (host := "") (Or.inl (hw _ (List.mem_of_getElem? (i := 18) rfl))) Via.refl e102 ur1 (hb hby d8_21) (pc' := 24) rfl (fun T103 X103 e103 => ?_)
    refine W.s1 (mkF m 26 #[.val (.ref ao), .val (.int (1 : Int32)), .val (.double (FP.l2d (1 : Int64))), .second, .val (.double (FP.l2d (0 : Int64))), .second, .val (.int (1 : Int32))] [(.int (1 : Int32)), (.ref zx)]) (fun _ kx_ => XS.iload X103.here hx rfl (hb hby d8_24) rfl kx_) ?_
    refine W.ldd X103 hx hZ e103 ua1 1 rfl (by first | decide | simp) (hb hby d8_26) (pc' := 27) rfl ?_
    rw [show ((W.up (W.up (fun _ => 0) 0 (FP.l2d (0 : Int64))) 1 (FP.l2d (1 : Int64))) 1) = (FP.l2d (1 : Int64)) from by first | exact (W.up_other _ _ (by decide)).trans (W.up_same _ _ _) | exact W.up_same _ _ _ | rfl]
    refine W.s1 (mkF m 28 #[.val (.ref ao), .val (.int (1 : Int32)), .val (.double (FP.l2d (1 : Int64))), .second, .val (.double (FP.l2d (0 : Int64))), .second, .val (.int (1 : Int32))] [(.double (FP.l2d (1 : Int64))), (.double (FP.l2d (1 : Int64)))]) (fun _ kx_ => XS.dloadN X103.here hx rfl (hb hby d8_27) rfl kx_) ?_
    refine W.s1 (mkF m 29 #[.val (.ref ao), .val (.int (1 : Int32)), .val (.double (FP.l2d (1 : Int64))), .second, .val (.double (FP.l2d (0 : Int64))), .second, .val (.int (1 : Int32))] [(.int (0 : Int32))]) (fun _ kx_ => XS.dcmpS X103.here hx rfl (hb hby d8_28) rfl ((dcmpV_w ⟨by first | decide | decide +kernel, by first | decide | decide +kernel⟩ ⟨by first | decide | decide +kernel, by first | decide | decide +kernel⟩ _).trans (by first | decide | decide +kernel)) kx_) ?_
    refine W.ifc X103 hx (hb hby d8_29) (pc' := 49) (pc'' := 32) (by decide) (by decide) rfl (fun (c29 : ¬ (0 : Int32) = (0 : Int32)) => ?_) (fun (c29 : (0 : Int32) = (0 : Int32)) => ?_)
    · exact absurd c29 (by decide)
    · refine W.s1 (mkF m 33 #[.val (.ref ao), .val (.int (1 : Int32)), .val (.double (FP.l2d (1 : Int64))), .second, .val (.double (FP.l2d (0 : Int64))), .second, .val (.int (1 : Int32))] [(.ref ao)]) (fun _ kx_ => XS.aloadN X103.here hx rfl (hb hby d8_32) rfl rfl kx_) ?_
      refine W.getf X103 hx hZ hown (host := "") (Or.inl (hw _ (List.mem_of_getElem? (i := 20) rfl))) Via.refl e103 ur2 (hb hby d8_33) (pc' := 36) rfl (fun T104 X104 e104 => ?_)
      refine W.s1 (mkF m 38 #[.val (.ref ao), .val (.int (1 : Int32)), .val (.double (FP.l2d (1 : Int64))), .second, .val (.double (FP.l2d (0 : Int64))), .second, .val (.int (1 : Int32))] [(.int (1 : Int32)), (.ref zy)]) (fun _ kx_ => XS.iload X104.here hx rfl (hb hby d8_36) rfl kx_) ?_
      refine W.ldd X104 hx hZ e104 ua2 1 rfl (by first | decide | simp) (hb hby d8_38) (pc' := 39) rfl ?_
      rw [show ((W.up (W.up (fun _ => 0) 0 (FP.l2d (0 : Int64))) 1 (FP.l2d (0 : Int64))) 1) = (FP.l2d (0 : Int64)) from by first | exact (W.up_other _ _ (by decide)).trans (W.up_same _ _ _) | exact W.up_same _ _ _ | rfl]
      refine W.s1 (mkF m 41 #[.val (.ref ao), .val (.int (1 : Int32)), .val (.double (FP.l2d (1 : Int64))), .second, .val (.double (FP.l2d (0 : Int64))), .second, .val (.int (1 : Int32))] [(.double (FP.l2d (0 : Int64))), (.double (FP.l2d (0 : Int64)))]) (fun _ kx_ => XS.dload X104.here hx rfl (hb hby d8_39) rfl kx_) ?_
      refine W.s1 (mkF m 42 #[.val (.ref ao), .val (.int (1 : Int32)), .val (.double (FP.l2d (1 : Int64))), .second, .val (.double (FP.l2d (0 : Int64))), .second, .val (.int (1 : Int32))] [(.int (0 : Int32))]) (fun _ kx_ => XS.dcmpS X104.here hx rfl (hb hby d8_41) rfl ((dcmpV_w ⟨by first | decide | decide +kernel, by first | decide | decide +kernel⟩ ⟨by first | decide | decide +kernel, by first | decide | decide +kernel⟩ _).trans (by first | decide | decide +kernel)) kx_) ?_
      refine W.ifc X104 hx (hb hby d8_42) (pc' := 49) (pc'' := 45) (by decide) (by decide) rfl (fun (c42 : ¬ (0 : Int32) < (0 : Int32)) => ?_) (fun (c42 : (0 : Int32) < (0 : Int32)) => ?_)
      · refine W.s1 (mkF m 50 #[.val (.ref ao), .val (.int (1 : Int32)), .val (.double (FP.l2d (1 : Int64))), .second, .val (.double (FP.l2d (0 : Int64))), .second, .val (.int (1 : Int32))] [(.int (0 : Int32))]) (fun _ kx_ => XS.iconst X104.here hx rfl (hb hby d8_49) kx_) ?_
        exact W.retZ X104 hx hlk (t := .boolean) (z' := (0 : Int32)) Bd.returns (by simp) (hb hby d8_50) rfl (by show Q8_11 Z ao zb zx zy zf zd zn zp S h0 n0 _ T104.heap _; rw [e104]; exact ⟨rfl, N0, rfl⟩) (by decide) (by decide)
      · exact absurd c42 (by decide)
theorem ef_7_0 (m : MethodId) (x0 : Addr) (x1 : UInt64) (x2 : UInt64) (x3 : Int32) : entryFrame m #[(.ref x0), (.double x1), (.double x2), (.int x3)] 12 = mkF m 0 #[.val (.ref x0), .val (.double x1), .second, .val (.double x2), .second, .val (.int x3), .unset, .unset, .unset, .unset, .unset, .unset] [] := by first | (simp [entryFrame, mkF, argsToLocals, Value.category]; done) | rfl
theorem d7_0 : decode prog_7_method_5_code 0 = .ok (.iload 5, 2) := by decide +kernel
theorem d7_2 : decode prog_7_method_5_code 2 = .ok (.iconst 1, 1) := by decide +kernel
theorem d7_3 : decode prog_7_method_5_code 3 = .ok (.isub, 1) := by decide +kernel
theorem d7_4 : decode prog_7_method_5_code 4 = .ok (.istore 6, 2) := by decide +kernel
theorem d7_6 : decode prog_7_method_5_code 6 = .ok (.iload 5, 2) := by decide +kernel
theorem d7_8 : decode prog_7_method_5_code 8 = .ok (.istore 7, 2) := by decide +kernel
theorem d7_10 : decode prog_7_method_5_code 10 = .ok (.iconst 1, 1) := by decide +kernel
theorem d7_11 : decode prog_7_method_5_code 11 = .ok (.istore 8, 2) := by decide +kernel
theorem d7_13 : decode prog_7_method_5_code 13 = .ok (.iload 7, 2) := by decide +kernel
theorem d7_15 : decode prog_7_method_5_code 15 = .ok (.aload_n 0, 1) := by decide +kernel
theorem d7_16 : decode prog_7_method_5_code 16 = .ok (.getfield 7, 3) := by decide +kernel
theorem d7_19 : decode prog_7_method_5_code 19 = .ok (.arraylength, 1) := by decide +kernel
theorem d7_20 : decode prog_7_method_5_code 20 = .ok (.if_icmp .ge 55, 3) := by decide +kernel
theorem d7_23 : decode prog_7_method_5_code 23 = .ok (.aload_n 0, 1) := by decide +kernel
theorem d7_24 : decode prog_7_method_5_code 24 = .ok (.iload 7, 2) := by decide +kernel
theorem d7_26 : decode prog_7_method_5_code 26 = .ok (.dload_n 1, 1) := by decide +kernel
theorem d7_27 : decode prog_7_method_5_code 27 = .ok (.dload_n 3, 1) := by decide +kernel
theorem d7_28 : decode prog_7_method_5_code 28 = .ok (.invokevirtual 56, 3) := by decide +kernel
theorem pd_1 : parseMethodDescriptor "(IDD)Z" = some ⟨[.int, .double, .double], some .boolean⟩ := by decide +kernel
theorem d7_31 : decode prog_7_method_5_code 31 = .ok (.ifCond .eq 44, 3) := by decide +kernel
theorem d7_75 : decode prog_7_method_5_code 75 = .ok (.iload 6, 2) := by decide +kernel
theorem d7_77 : decode prog_7_method_5_code 77 = .ok (.iconst 1, 1) := by decide +kernel
theorem d7_78 : decode prog_7_method_5_code 78 = .ok (.iadd, 1) := by decide +kernel
theorem d7_79 : decode prog_7_method_5_code 79 = .ok (.istore 9, 2) := by decide +kernel
theorem d7_81 : decode prog_7_method_5_code 81 = .ok (.iload 7, 2) := by decide +kernel
theorem d7_83 : decode prog_7_method_5_code 83 = .ok (.istore 10, 2) := by decide +kernel
theorem d7_85 : decode prog_7_method_5_code 85 = .ok (.iload 9, 2) := by decide +kernel
theorem d7_87 : decode prog_7_method_5_code 87 = .ok (.iload 10, 2) := by decide +kernel
theorem d7_89 : decode prog_7_method_5_code 89 = .ok (.if_icmp .ge 39, 3) := by decide +kernel
theorem d7_128 : decode prog_7_method_5_code 128 = .ok (.iload 9, 2) := by decide +kernel
theorem d7_130 : decode prog_7_method_5_code 130 = .ok (.ireturn, 1) := by decide +kernel
def Q7_0 (Z : State) (ao : Addr) (zb : Addr) (zx : Addr) (zy : Addr) (zf : Addr) (zd : Addr) (zn : Addr) (zp : Addr) (S : own_S) (h0 : Heap) (n0 : Nat) (v : Option Value) (h : Heap) (L : List Loc) : Prop := v = some (.int 0) ∧ Fr n0 L ∧ h = h0
set_option maxRecDepth 65536 in
set_option maxHeartbeats 40000000 in
theorem rm7_0 (l : Launch) (Z : State) (a0 : Array Value) (hw : ∀ d ∈ tables_1, d.before a0 Z = true) (ws : List Jvm.Cond) (ao : Addr) (zb : Addr) (zx : Addr) (zy : Addr) (zf : Addr) (zd : Addr) (zn : Addr) (zp : Addr) (S : own_S) (h0 : Heap) (n0 : Nat) (Z0 : n0 ≤ h0.size) (H0 : own_PC Z h0 ao zb zx zy zf zd zn zp S) :
    MetFree l (⟨"com/example/stummel/stummel/geometry/PendingCrossings", "firstNotBefore", "(DDI)I"⟩ : MethodName) (head1 (Jvm.Cond.code (⟨"com/example/stummel/stummel/geometry/PendingCrossings", "firstNotBefore", "(DDI)I"⟩ : MethodName) prog_7_method_5_code 12 (some .int) :: ws) ({ frames := 1, cells := 0, slots := 0, locals := 18 } : Room)) (fun a U => a = #[(.ref ao), (.double (FP.l2d (0 : Int64))), (.double (FP.l2d (0 : Int64))), (.int (0 : Int32))] ∧ Z.Warmed39 U.vm ∧ U.heap = h0) (fun _ _ _ _ _ => True) (fun _ U o U' => ∃ v L, o = .returned v ∧ Q7_0 Z ao zb zx zy zf zd zn zp S h0 n0 v U'.heap L ∧ FrameEnd U o U' L ({ frames := 1, cells := 0, slots := 0, locals := 18 } : Room).cells ({ frames := 1, cells := 0, slots := 0, locals := 18 } : Room).slots) := by
  refine MetFree.of_bodySF (plainFor_of_name pn_2) hisR ?_
  intro p e s m args below meth c s₁ Bd hml0 hP hK
  obtain ⟨rfl, hZ, hh⟩ := hP
  have hx := Bd.exec
  have hby := Bd.bytes
  have hml : c.maxLocals = 12 := hml0
  have hown : s.vm.findClass "com/example/stummel/stummel/geometry/PendingCrossings" = some m.cls := findClass_of_methodNamed Bd.named
  have hnm := (name_of_methodNamed Bd.named Bd.method).1
  have hlk : meth.locks = false := BodyLoose.notSynchronized Bd
  have X0 : Stand p l e ({ frames := 1, cells := 0, slots := 0, locals := 18 } : Room) s m #[(.ref ao), (.double (FP.l2d (0 : Int64))), (.double (FP.l2d (0 : Int64))), (.int (0 : Int32))] below meth c s₁ [] 0 0 := Stand.of_body Bd
  have e0 : s₁.heap = h0 := by rw [← hh, Bd.state]; rfl
  have N0 := Fr.nil n0
  show W.Gl p e below s (Q7_0 Z ao zb zx zy zf zd zn zp S h0 n0) ({ frames := 1, cells := 0, slots := 0, locals := 18 } : Room).cells ({ frames := 1, cells := 0, slots := 0, locals := 18 } : Room).slots s₁ (entryFrame m #[(.ref ao), (.double (FP.l2d (0 : Int64))), (.double (FP.l2d (0 : Int64))), (.int (0 : Int32))] 12)
  refine W.cast (ef_7_0 m ao (FP.l2d (0 : Int64)) (FP.l2d (0 : Int64)) (0 : Int32)) ?_
  have H1 := H0
  obtain ⟨ue, ur0, ur1, ur2, ur3, ur4, ur5, ur6, ua0, ua1, ua2, ua3, ua4, ua5, ua6⟩ := H0
  refine W.s1 (mkF m 2 #[.val (.ref ao), .val (.double (FP.l2d (0 : Int64))), .second, .val (.double (FP.l2d (0 : Int64))), .second, .val (.int (0 : Int32)), .unset, .unset, .unset, .unset, .unset, .unset] [(.int (0 : Int32))]) (fun _ kx_ => XS.iload X0.here hx rfl (hb hby d7_0) rfl kx_) ?_
  refine W.s1 (mkF m 3 #[.val (.ref ao), .val (.double (FP.l2d (0 : Int64))), .second, .val (.double (FP.l2d (0 : Int64))), .second, .val (.int (0 : Int32)), .unset, .unset, .unset, .unset, .unset, .unset] [(.int (1 : Int32)), (.int (0 : Int32))]) (fun _ kx_ => XS.iconst X0.here hx rfl (hb hby d7_2) kx_) ?_
  refine W.s1 (mkF m 4 #[.val (.ref ao), .val (.double (FP.l2d (0 : Int64))), .second, .val (.double (FP.l2d (0 : Int64))), .second, .val (.int (0 : Int32)), .unset, .unset, .unset, .unset, .unset, .unset] [(.int (-1 : Int32))]) (fun _ kx_ => XS.isub X0.here hx rfl (hb hby d7_3) rfl kx_) ?_
  refine W.s1 (mkF m 6 #[.val (.ref ao), .val (.double (FP.l2d (0 : Int64))), .second, .val (.double (FP.l2d (0 : Int64))), .second, .val (.int (0 : Int32)), .val (.int (-1 : Int32)), .unset, .unset, .unset, .unset, .unset] []) (fun _ kx_ => XS.istore X0.here hx rfl (hb hby d7_4) rfl (l' := #[.val (.ref ao), .val (.double (FP.l2d (0 : Int64))), .second, .val (.double (FP.l2d (0 : Int64))), .second, .val (.int (0 : Int32)), .val (.int (-1 : Int32)), .unset, .unset, .unset, .unset, .unset]) rfl kx_) ?_
  refine W.s1 (mkF m 8 #[.val (.ref ao), .val (.double (FP.l2d (0 : Int64))), .second, .val (.double (FP.l2d (0 : Int64))), .second, .val (.int (0 : Int32)), .val (.int (-1 : Int32)), .unset, .unset, .unset, .unset, .unset] [(.int (0 : Int32))]) (fun _ kx_ => XS.iload X0.here hx rfl (hb hby d7_6) rfl kx_) ?_
  refine W.s1 (mkF m 10 #[.val (.ref ao), .val (.double (FP.l2d (0 : Int64))), .second, .val (.double (FP.l2d (0 : Int64))), .second, .val (.int (0 : Int32)), .val (.int (-1 : Int32)), .val (.int (0 : Int32)), .unset, .unset, .unset, .unset] []) (fun _ kx_ => XS.istore X0.here hx rfl (hb hby d7_8) rfl (l' := #[.val (.ref ao), .val (.double (FP.l2d (0 : Int64))), .second, .val (.double (FP.l2d (0 : Int64))), .second, .val (.int (0 : Int32)), .val (.int (-1 : Int32)), .val (.int (0 : Int32)), .unset, .unset, .unset, .unset]) rfl kx_) ?_
  refine W.s1 (mkF m 11 #[.val (.ref ao), .val (.double (FP.l2d (0 : Int64))), .second, .val (.double (FP.l2d (0 : Int64))), .second, .val (.int (0 : Int32)), .val (.int (-1 : Int32)), .val (.int (0 : Int32)), .unset, .unset, .unset, .unset] [(.int (1 : Int32))]) (fun _ kx_ => XS.iconst X0.here hx rfl (hb hby d7_10) kx_) ?_
  refine W.s1 (mkF m 13 #[.val (.ref ao), .val (.double (FP.l2d (0 : Int64))), .second, .val (.double (FP.l2d (0 : Int64))), .second, .val (.int (0 : Int32)), .val (.int (-1 : Int32)), .val (.int (0 : Int32)), .val (.int (1 : Int32)), .unset, .unset, .unset] []) (fun _ kx_ => XS.istore X0.here hx rfl (hb hby d7_11) rfl (l' := #[.val (.ref ao), .val (.double (FP.l2d (0 : Int64))), .second, .val (.double (FP.l2d (0 : Int64))), .second, .val (.int (0 : Int32)), .val (.int (-1 : Int32)), .val (.int (0 : Int32)), .val (.int (1 : Int32)), .unset, .unset, .unset]) rfl kx_) ?_
  refine W.s1 (mkF m 15 #[.val (.ref ao), .val (.double (FP.l2d (0 : Int64))), .second, .val (.double (FP.l2d (0 : Int64))), .second, .val (.int (0 : Int32)), .val (.int (-1 : Int32)), .val (.int (0 : Int32)), .val (.int (1 : Int32)), .unset, .unset, .unset] [(.int (0 : Int32))]) (fun _ kx_ => XS.iload X0.here hx rfl (hb hby d7_13) rfl kx_) ?_
  refine W.s1 (mkF m 16 #[.val (.ref ao), .val (.double (FP.l2d (0 : Int64))), .second, .val (.double (FP.l2d (0 : Int64))), .second, .val (.int (0 : Int32)), .val (.int (-1 : Int32)), .val (.int (0 : Int32)), .val (.int (1 : Int32)), .unset, .unset, .unset] [(.ref ao), (.int (0 : Int32))]) (fun _ kx_ => XS.aloadN X0.here hx rfl (hb hby d7_15) rfl rfl kx_) ?_
  refine W.getf X0 hx hZ hown (host := "") (Or.inl (hw _ (List.mem_of_getElem? (i := 16) rfl))) Via.refl e0 ur0 (hb hby d7_16) (pc' := 19) rfl (fun T101 X101 e101 => ?_)
  refine W.alen X101 hx hZ e101 ua0 (z := (2 : Int32)) rfl (hb hby d7_19) (pc' := 20) rfl ?_
  refine W.icmp X101 hx (hb hby d7_20) (pc' := 75) (pc'' := 23) (by decide) (by decide) rfl (fun (c20 : ¬ (0 : Int32) < (2 : Int32)) => ?_) (fun (c20 : (0 : Int32) < (2 : Int32)) => ?_)
  · exact absurd c20 (by decide)
  · refine W.s1 (mkF m 24 #[.val (.ref ao), .val (.double (FP.l2d (0 : Int64))), .second, .val (.double (FP.l2d (0 : Int64))), .second, .val (.int (0 : Int32)), .val (.int (-1 : Int32)), .val (.int (0 : Int32)), .val (.int (1 : Int32)), .unset, .unset, .unset] [(.ref ao)]) (fun _ kx_ => XS.aloadN X101.here hx rfl (hb hby d7_23) rfl rfl kx_) ?_
    refine W.s1 (mkF m 26 #[.val (.ref ao), .val (.double (FP.l2d (0 : Int64))), .second, .val (.double (FP.l2d (0 : Int64))), .second, .val (.int (0 : Int32)), .val (.int (-1 : Int32)), .val (.int (0 : Int32)), .val (.int (1 : Int32)), .unset, .unset, .unset] [(.int (0 : Int32)), (.ref ao)]) (fun _ kx_ => XS.iload X101.here hx rfl (hb hby d7_24) rfl kx_) ?_
    refine W.s1 (mkF m 27 #[.val (.ref ao), .val (.double (FP.l2d (0 : Int64))), .second, .val (.double (FP.l2d (0 : Int64))), .second, .val (.int (0 : Int32)), .val (.int (-1 : Int32)), .val (.int (0 : Int32)), .val (.int (1 : Int32)), .unset, .unset, .unset] [(.double (FP.l2d (0 : Int64))), (.int (0 : Int32)), (.ref ao)]) (fun _ kx_ => XS.dloadN X101.here hx rfl (hb hby d7_26) rfl kx_) ?_
    refine W.s1 (mkF m 28 #[.val (.ref ao), .val (.double (FP.l2d (0 : Int64))), .second, .val (.double (FP.l2d (0 : Int64))), .second, .val (.int (0 : Int32)), .val (.int (-1 : Int32)), .val (.int (0 : Int32)), .val (.int (1 : Int32)), .unset, .unset, .unset] [(.double (FP.l2d (0 : Int64))), (.double (FP.l2d (0 : Int64))), (.int (0 : Int32)), (.ref ao)]) (fun _ kx_ => XS.dloadN X101.here hx rfl (hb hby d7_27) rfl kx_) ?_
    obtain ⟨cq102, q102, q102'⟩ := ue.cell
    obtain ⟨_, _, ⟨T102, L102, k102, n102⟩, -, X102, ⟨Lc102, hQ102, l102, y102, z102⟩, st102⟩ := X101.privateBack hx (y := (⟨"com/example/stummel/stummel/geometry/PendingCrossings", "comesBefore", "(IDD)Z"⟩ : MethodName)) hown (mvT hZ (hw _ (List.mem_of_getElem? (i := 46) rfl))) (mvT hZ (hw _ (List.mem_of_getElem? (i := 47) rfl))) (W.privSel hZ (hw _ (List.mem_of_getElem? (i := 7) rfl)) (hw _ (List.mem_of_getElem? (i := 48) rfl)) (hw _ (List.mem_of_getElem? (i := 47) rfl)) rfl (by decide)) (Cond.privateMethod_at (mvP hZ (hw _ (List.mem_of_getElem? (i := 48) rfl)) (args := #[]))) (mvT hZ (hw _ (List.mem_of_getElem? (i := 49) rfl))) (by decide) (backOf (W := 0) (rm8_00 l Z a0 hw [] ao zb zx zy zf zd zn zp S h0 n0 Z0 H1) hZ (hw _ (List.mem_of_getElem? (i := 49) rfl)) (hw _ (List.mem_of_getElem? (i := 8) rfl)) (by decide) (by decide)) (g := (mkF m 28 #[.val (.ref ao), .val (.double (FP.l2d (0 : Int64))), .second, .val (.double (FP.l2d (0 : Int64))), .second, .val (.int (0 : Int32)), .val (.int (-1 : Int32)), .val (.int (0 : Int32)), .val (.int (1 : Int32)), .unset, .unset, .unset] [(.double (FP.l2d (0 : Int64))), (.double (FP.l2d (0 : Int64))), (.int (0 : Int32)), (.ref ao)])) rfl (by rw [hml]; rfl) (Steps.refl _) (a := ao) (by rw [e101]; exact q102) q102' (argsL := [(.int (0 : Int32)), (.double (FP.l2d (0 : Int64))), (.double (FP.l2d (0 : Int64)))]) (rest := []) (lenOf pd_1 rfl) rfl (by show 2 * 0 + _ ≤ _; exact Nat.le_of_eq rfl) (hb hby d7_28) (fun _ _ => ⟨rfl, e101, (by decide : 0 + 0 ≤ _), (by decide : 0 + 0 ≤ _)⟩)
    dsimp only [Pt.U, Pt.locs, Pt.cells, Pt.slots] at X102 l102 y102 z102 st102 hQ102
    subst l102 y102 z102
    obtain ⟨rfl, Nq102, eq102⟩ := hQ102
    have N102 := Fr.app N0 Nq102
    refine W.s3 (mkF m 31 #[.val (.ref ao), .val (.double (FP.l2d (0 : Int64))), .second, .val (.double (FP.l2d (0 : Int64))), .second, .val (.int (0 : Int32)), .val (.int (-1 : Int32)), .val (.int (0 : Int32)), .val (.int (1 : Int32)), .unset, .unset, .unset] [(.int (0 : Int32))]) st102 ?_
    refine W.ifc X102 hx (hb hby d7_31) (pc' := 75) (pc'' := 34) (by decide) (by decide) rfl (fun (c31 : (0 : Int32) = (0 : Int32)) => ?_) (fun (c31 : ¬ (0 : Int32) = (0 : Int32)) => ?_)
    · refine W.s1 (mkF m 77 #[.val (.ref ao), .val (.double (FP.l2d (0 : Int64))), .second, .val (.double (FP.l2d (0 : Int64))), .second, .val (.int (0 : Int32)), .val (.int (-1 : Int32)), .val (.int (0 : Int32)), .val (.int (1 : Int32)), .unset, .unset, .unset] [(.int (-1 : Int32))]) (fun _ kx_ => XS.iload X102.here hx rfl (hb hby d7_75) rfl kx_) ?_
      refine W.s1 (mkF m 78 #[.val (.ref ao), .val (.double (FP.l2d (0 : Int64))), .second, .val (.double (FP.l2d (0 : Int64))), .second, .val (.int (0 : Int32)), .val (.int (-1 : Int32)), .val (.int (0 : Int32)), .val (.int (1 : Int32)), .unset, .unset, .unset] [(.int (1 : Int32)), (.int (-1 : Int32))]) (fun _ kx_ => XS.iconst X102.here hx rfl (hb hby d7_77) kx_) ?_
      refine W.s1 (mkF m 79 #[.val (.ref ao), .val (.double (FP.l2d (0 : Int64))), .second, .val (.double (FP.l2d (0 : Int64))), .second, .val (.int (0 : Int32)), .val (.int (-1 : Int32)), .val (.int (0 : Int32)), .val (.int (1 : Int32)), .unset, .unset, .unset] [(.int (0 : Int32))]) (fun _ kx_ => XS.iadd X102.here hx rfl (hb hby d7_78) rfl kx_) ?_
      refine W.s1 (mkF m 81 #[.val (.ref ao), .val (.double (FP.l2d (0 : Int64))), .second, .val (.double (FP.l2d (0 : Int64))), .second, .val (.int (0 : Int32)), .val (.int (-1 : Int32)), .val (.int (0 : Int32)), .val (.int (1 : Int32)), .val (.int (0 : Int32)), .unset, .unset] []) (fun _ kx_ => XS.istore X102.here hx rfl (hb hby d7_79) rfl (l' := #[.val (.ref ao), .val (.double (FP.l2d (0 : Int64))), .second, .val (.double (FP.l2d (0 : Int64))), .second, .val (.int (0 : Int32)), .val (.int (-1 : Int32)), .val (.int (0 : Int32)), .val (.int (1 : Int32)), .val (.int (0 : Int32)), .unset, .unset]) rfl kx_) ?_
      refine W.s1 (mkF m 83 #[.val (.ref ao), .val (.double (FP.l2d (0 : Int64))), .second, .val (.double (FP.l2d (0 : Int64))), .second, .val (.int (0 : Int32)), .val (.int (-1 : Int32)), .val (.int (0 : Int32)), .val (.int (1 : Int32)), .val (.int (0 : Int32)), .unset, .unset] [(.int (0 : Int32))]) (fun _ kx_ => XS.iload X102.here hx rfl (hb hby d7_81) rfl kx_) ?_
      refine W.s1 (mkF m 85 #[.val (.ref ao), .val (.double (FP.l2d (0 : Int64))), .second, .val (.double (FP.l2d (0 : Int64))), .second, .val (.int (0 : Int32)), .val (.int (-1 : Int32)), .val (.int (0 : Int32)), .val (.int (1 : Int32)), .val (.int (0 : Int32)), .val (.int (0 : Int32)), .unset] []) (fun _ kx_ => XS.istore X102.here hx rfl (hb hby d7_83) rfl (l' := #[.val (.ref ao), .val (.double (FP.l2d (0 : Int64))), .second, .val (.double (FP.l2d (0 : Int64))), .second, .val (.int (0 : Int32)), .val (.int (-1 : Int32)), .val (.int (0 : Int32)), .val (.int (1 : Int32)), .val (.int (0 : Int32)), .val (.int (0 : Int32)), .unset]) rfl kx_) ?_
      refine W.s1 (mkF m 87 #[.val (.ref ao), .val (.double (FP.l2d (0 : Int64))), .second, .val (.double (FP.l2d (0 : Int64))), .second, .val (.int (0 : Int32)), .val (.int (-1 : Int32)), .val (.int (0 : Int32)), .val (.int (1 : Int32)), .val (.int (0 : Int32)), .val (.int (0 : Int32)), .unset] [(.int (0 : Int32))]) (fun _ kx_ => XS.iload X102.here hx rfl (hb hby d7_85) rfl kx_) ?_
      refine W.s1 (mkF m 89 #[.val (.ref ao), .val (.double (FP.l2d (0 : Int64))), .second, .val (.double (FP.l2d (0 : Int64))), .second, .val (.int (0 : Int32)), .val (.int (-1 : Int32)), .val (.int (0 : Int32)), .val (.int (1 : Int32)), .val (.int (0 : Int32)), .val (.int (0 : Int32)), .unset] [(.int (0 : Int32)), (.int (0 : Int32))]) (fun _ kx_ => XS.iload X102.here hx rfl (hb hby d7_87) rfl kx_) ?_
      refine W.icmp X102 hx (hb hby d7_89) (pc' := 128) (pc'' := 92) (by decide) (by decide) rfl (fun (c89 : ¬ (0 : Int32) < (0 : Int32)) => ?_) (fun (c89 : (0 : Int32) < (0 : Int32)) => ?_)
      · refine W.s1 (mkF m 130 #[.val (.ref ao), .val (.double (FP.l2d (0 : Int64))), .second, .val (.double (FP.l2d (0 : Int64))), .second, .val (.int (0 : Int32)), .val (.int (-1 : Int32)), .val (.int (0 : Int32)), .val (.int (1 : Int32)), .val (.int (0 : Int32)), .val (.int (0 : Int32)), .unset] [(.int (0 : Int32))]) (fun _ kx_ => XS.iload X102.here hx rfl (hb hby d7_128) rfl kx_) ?_
        exact W.retI X102 hx hlk Bd.returns (hb hby d7_130) (by show Q7_0 Z ao zb zx zy zf zd zn zp S h0 n0 _ T102.heap _; rw [eq102]; exact ⟨rfl, N102, rfl⟩) (by decide) (by decide)
      · exact absurd c89 (by decide)
    · exact absurd c31 (by decide)
theorem ef_7_1 (m : MethodId) (x0 : Addr) (x1 : UInt64) (x2 : UInt64) (x3 : Int32) : entryFrame m #[(.ref x0), (.double x1), (.double x2), (.int x3)] 12 = mkF m 0 #[.val (.ref x0), .val (.double x1), .second, .val (.double x2), .second, .val (.int x3), .unset, .unset, .unset, .unset, .unset, .unset] [] := by first | (simp [entryFrame, mkF, argsToLocals, Value.category]; done) | rfl
theorem d7_34 : decode prog_7_method_5_code 34 = .ok (.iload 7, 2) := by decide +kernel
theorem d7_36 : decode prog_7_method_5_code 36 = .ok (.istore 6, 2) := by decide +kernel
theorem d7_38 : decode prog_7_method_5_code 38 = .ok (.iload 8, 2) := by decide +kernel
theorem d7_40 : decode prog_7_method_5_code 40 = .ok (.aload_n 0, 1) := by decide +kernel
theorem d7_41 : decode prog_7_method_5_code 41 = .ok (.getfield 7, 3) := by decide +kernel
theorem d7_44 : decode prog_7_method_5_code 44 = .ok (.arraylength, 1) := by decide +kernel
theorem d7_45 : decode prog_7_method_5_code 45 = .ok (.iload 7, 2) := by decide +kernel
theorem d7_47 : decode prog_7_method_5_code 47 = .ok (.isub, 1) := by decide +kernel
theorem d7_48 : decode prog_7_method_5_code 48 = .ok (.if_icmp .ge 11, 3) := by decide +kernel
theorem d7_51 : decode prog_7_method_5_code 51 = .ok (.iload 7, 2) := by decide +kernel
theorem d7_53 : decode prog_7_method_5_code 53 = .ok (.iload 8, 2) := by decide +kernel
theorem d7_55 : decode prog_7_method_5_code 55 = .ok (.iadd, 1) := by decide +kernel
theorem d7_56 : decode prog_7_method_5_code 56 = .ok (.goto 8, 3) := by decide +kernel
theorem d7_64 : decode prog_7_method_5_code 64 = .ok (.istore 7, 2) := by decide +kernel
theorem d7_66 : decode prog_7_method_5_code 66 = .ok (.iload 8, 2) := by decide +kernel
theorem d7_68 : decode prog_7_method_5_code 68 = .ok (.iconst 2, 1) := by decide +kernel
theorem d7_69 : decode prog_7_method_5_code 69 = .ok (.imul, 1) := by decide +kernel
theorem d7_70 : decode prog_7_method_5_code 70 = .ok (.istore 8, 2) := by decide +kernel
theorem d7_72 : decode prog_7_method_5_code 72 = .ok (.goto (-59), 3) := by decide +kernel
def Q7_1 (Z : State) (ao : Addr) (zb : Addr) (zx : Addr) (zy : Addr) (zf : Addr) (zd : Addr) (zn : Addr) (zp : Addr) (S : own_S) (h0 : Heap) (n0 : Nat) (v : Option Value) (h : Heap) (L : List Loc) : Prop := v = some (.int 1) ∧ Fr n0 L ∧ h = h0
set_option maxRecDepth 65536 in
set_option maxHeartbeats 40000000 in
theorem rm7_1 (l : Launch) (Z : State) (a0 : Array Value) (hw : ∀ d ∈ tables_1, d.before a0 Z = true) (ws : List Jvm.Cond) (ao : Addr) (zb : Addr) (zx : Addr) (zy : Addr) (zf : Addr) (zd : Addr) (zn : Addr) (zp : Addr) (S : own_S) (h0 : Heap) (n0 : Nat) (Z0 : n0 ≤ h0.size) (H0 : own_PC Z h0 ao zb zx zy zf zd zn zp S) :
    MetFree l (⟨"com/example/stummel/stummel/geometry/PendingCrossings", "firstNotBefore", "(DDI)I"⟩ : MethodName) (head1 (Jvm.Cond.code (⟨"com/example/stummel/stummel/geometry/PendingCrossings", "firstNotBefore", "(DDI)I"⟩ : MethodName) prog_7_method_5_code 12 (some .int) :: ws) ({ frames := 1, cells := 0, slots := 0, locals := 18 } : Room)) (fun a U => a = #[(.ref ao), (.double (FP.l2d (1 : Int64))), (.double (FP.l2d (0 : Int64))), (.int (0 : Int32))] ∧ Z.Warmed39 U.vm ∧ U.heap = h0) (fun _ _ _ _ _ => True) (fun _ U o U' => ∃ v L, o = .returned v ∧ Q7_1 Z ao zb zx zy zf zd zn zp S h0 n0 v U'.heap L ∧ FrameEnd U o U' L ({ frames := 1, cells := 0, slots := 0, locals := 18 } : Room).cells ({ frames := 1, cells := 0, slots := 0, locals := 18 } : Room).slots) := by
  refine MetFree.of_bodySF (plainFor_of_name pn_2) hisR ?_
  intro p e s m args below meth c s₁ Bd hml0 hP hK
  obtain ⟨rfl, hZ, hh⟩ := hP
  have hx := Bd.exec
  have hby := Bd.bytes
  have hml : c.maxLocals = 12 := hml0
  have hown : s.vm.findClass "com/example/stummel/stummel/geometry/PendingCrossings" = some m.cls := findClass_of_methodNamed Bd.named
  have hnm := (name_of_methodNamed Bd.named Bd.method).1
  have hlk : meth.locks = false := BodyLoose.notSynchronized Bd
  have X0 : Stand p l e ({ frames := 1, cells := 0, slots := 0, locals := 18 } : Room) s m #[(.ref ao), (.double (FP.l2d (1 : Int64))), (.double (FP.l2d (0 : Int64))), (.int (0 : Int32))] below meth c s₁ [] 0 0 := Stand.of_body Bd
  have e0 : s₁.heap = h0 := by rw [← hh, Bd.state]; rfl
  have N0 := Fr.nil n0
  show W.Gl p e below s (Q7_1 Z ao zb zx zy zf zd zn zp S h0 n0) ({ frames := 1, cells := 0, slots := 0, locals := 18 } : Room).cells ({ frames := 1, cells := 0, slots := 0, locals := 18 } : Room).slots s₁ (entryFrame m #[(.ref ao), (.double (FP.l2d (1 : Int64))), (.double (FP.l2d (0 : Int64))), (.int (0 : Int32))] 12)
  refine W.cast (ef_7_1 m ao (FP.l2d (1 : Int64)) (FP.l2d (0 : Int64)) (0 : Int32)) ?_
  have H1 := H0
  obtain ⟨ue, ur0, ur1, ur2, ur3, ur4, ur5, ur6, ua0, ua1, ua2, ua3, ua4, ua5, ua6⟩ := H0
  refine W.s1 (mkF m 2 #[.val (.ref ao), .val (.double (FP.l2d (1 : Int64))), .second, .val (.double (FP.l2d (0 : Int64))), .second, .val (.int (0 : Int32)), .unset, .unset, .unset, .unset, .unset, .unset] [(.int (0 : Int32))]) (fun _ kx_ => XS.iload X0.here hx rfl (hb hby d7_0) rfl kx_) ?_
  refine W.s1 (mkF m 3 #[.val (.ref ao), .val (.double (FP.l2d (1 : Int64))), .second, .val (.double (FP.l2d (0 : Int64))), .second, .val (.int (0 : Int32)), .unset, .unset, .unset, .unset, .unset, .unset] [(.int (1 : Int32)), (.int (0 : Int32))]) (fun _ kx_ => XS.iconst X0.here hx rfl (hb hby d7_2) kx_) ?_
  refine W.s1 (mkF m 4 #[.val (.ref ao), .val (.double (FP.l2d (1 : Int64))), .second, .val (.double (FP.l2d (0 : Int64))), .second, .val (.int (0 : Int32)), .unset, .unset, .unset, .unset, .unset, .unset] [(.int (-1 : Int32))]) (fun _ kx_ => XS.isub X0.here hx rfl (hb hby d7_3) rfl kx_) ?_
  refine W.s1 (mkF m 6 #[.val (.ref ao), .val (.double (FP.l2d (1 : Int64))), .second, .val (.double (FP.l2d (0 : Int64))), .second, .val (.int (0 : Int32)), .val (.int (-1 : Int32)), .unset, .unset, .unset, .unset, .unset] []) (fun _ kx_ => XS.istore X0.here hx rfl (hb hby d7_4) rfl (l' := #[.val (.ref ao), .val (.double (FP.l2d (1 : Int64))), .second, .val (.double (FP.l2d (0 : Int64))), .second, .val (.int (0 : Int32)), .val (.int (-1 : Int32)), .unset, .unset, .unset, .unset, .unset]) rfl kx_) ?_
  refine W.s1 (mkF m 8 #[.val (.ref ao), .val (.double (FP.l2d (1 : Int64))), .second, .val (.double (FP.l2d (0 : Int64))), .second, .val (.int (0 : Int32)), .val (.int (-1 : Int32)), .unset, .unset, .unset, .unset, .unset] [(.int (0 : Int32))]) (fun _ kx_ => XS.iload X0.here hx rfl (hb hby d7_6) rfl kx_) ?_
  refine W.s1 (mkF m 10 #[.val (.ref ao), .val (.double (FP.l2d (1 : Int64))), .second, .val (.double (FP.l2d (0 : Int64))), .second, .val (.int (0 : Int32)), .val (.int (-1 : Int32)), .val (.int (0 : Int32)), .unset, .unset, .unset, .unset] []) (fun _ kx_ => XS.istore X0.here hx rfl (hb hby d7_8) rfl (l' := #[.val (.ref ao), .val (.double (FP.l2d (1 : Int64))), .second, .val (.double (FP.l2d (0 : Int64))), .second, .val (.int (0 : Int32)), .val (.int (-1 : Int32)), .val (.int (0 : Int32)), .unset, .unset, .unset, .unset]) rfl kx_) ?_
  refine W.s1 (mkF m 11 #[.val (.ref ao), .val (.double (FP.l2d (1 : Int64))), .second, .val (.double (FP.l2d (0 : Int64))), .second, .val (.int (0 : Int32)), .val (.int (-1 : Int32)), .val (.int (0 : Int32)), .unset, .unset, .unset, .unset] [(.int (1 : Int32))]) (fun _ kx_ => XS.iconst X0.here hx rfl (hb hby d7_10) kx_) ?_
  refine W.s1 (mkF m 13 #[.val (.ref ao), .val (.double (FP.l2d (1 : Int64))), .second, .val (.double (FP.l2d (0 : Int64))), .second, .val (.int (0 : Int32)), .val (.int (-1 : Int32)), .val (.int (0 : Int32)), .val (.int (1 : Int32)), .unset, .unset, .unset] []) (fun _ kx_ => XS.istore X0.here hx rfl (hb hby d7_11) rfl (l' := #[.val (.ref ao), .val (.double (FP.l2d (1 : Int64))), .second, .val (.double (FP.l2d (0 : Int64))), .second, .val (.int (0 : Int32)), .val (.int (-1 : Int32)), .val (.int (0 : Int32)), .val (.int (1 : Int32)), .unset, .unset, .unset]) rfl kx_) ?_
  refine W.s1 (mkF m 15 #[.val (.ref ao), .val (.double (FP.l2d (1 : Int64))), .second, .val (.double (FP.l2d (0 : Int64))), .second, .val (.int (0 : Int32)), .val (.int (-1 : Int32)), .val (.int (0 : Int32)), .val (.int (1 : Int32)), .unset, .unset, .unset] [(.int (0 : Int32))]) (fun _ kx_ => XS.iload X0.here hx rfl (hb hby d7_13) rfl kx_) ?_
  refine W.s1 (mkF m 16 #[.val (.ref ao), .val (.double (FP.l2d (1 : Int64))), .second, .val (.double (FP.l2d (0 : Int64))), .second, .val (.int (0 : Int32)), .val (.int (-1 : Int32)), .val (.int (0 : Int32)), .val (.int (1 : Int32)), .unset, .unset, .unset] [(.ref ao), (.int (0 : Int32))]) (fun _ kx_ => XS.aloadN X0.here hx rfl (hb hby d7_15) rfl rfl kx_) ?_
  refine W.getf X0 hx hZ hown (host := "") (Or.inl (hw _ (List.mem_of_getElem? (i := 16) rfl))) Via.refl e0 ur0 (hb hby d7_16) (pc' := 19) rfl (fun T101 X101 e101 => ?_)
  refine W.alen X101 hx hZ e101 ua0 (z := (2 : Int32)) rfl (hb hby d7_19) (pc' := 20) rfl ?_
  refine W.icmp X101 hx (hb hby d7_20) (pc' := 75) (pc'' := 23) (by decide) (by decide) rfl (fun (c20 : ¬ (0 : Int32) < (2 : Int32)) => ?_) (fun (c20 : (0 : Int32) < (2 : Int32)) => ?_)
  · exact absurd c20 (by decide)
  · refine W.s1 (mkF m 24 #[.val (.ref ao), .val (.double (FP.l2d (1 : Int64))), .second, .val (.double (FP.l2d (0 : Int64))), .second, .val (.int (0 : Int32)), .val (.int (-1 : Int32)), .val (.int (0 : Int32)), .val (.int (1 : Int32)), .unset, .unset, .unset] [(.ref ao)]) (fun _ kx_ => XS.aloadN X101.here hx rfl (hb hby d7_23) rfl rfl kx_) ?_
    refine W.s1 (mkF m 26 #[.val (.ref ao), .val (.double (FP.l2d (1 : Int64))), .second, .val (.double (FP.l2d (0 : Int64))), .second, .val (.int (0 : Int32)), .val (.int (-1 : Int32)), .val (.int (0 : Int32)), .val (.int (1 : Int32)), .unset, .unset, .unset] [(.int (0 : Int32)), (.ref ao)]) (fun _ kx_ => XS.iload X101.here hx rfl (hb hby d7_24) rfl kx_) ?_
    refine W.s1 (mkF m 27 #[.val (.ref ao), .val (.double (FP.l2d (1 : Int64))), .second, .val (.double (FP.l2d (0 : Int64))), .second, .val (.int (0 : Int32)), .val (.int (-1 : Int32)), .val (.int (0 : Int32)), .val (.int (1 : Int32)), .unset, .unset, .unset] [(.double (FP.l2d (1 : Int64))), (.int (0 : Int32)), (.ref ao)]) (fun _ kx_ => XS.dloadN X101.here hx rfl (hb hby d7_26) rfl kx_) ?_
    refine W.s1 (mkF m 28 #[.val (.ref ao), .val (.double (FP.l2d (1 : Int64))), .second, .val (.double (FP.l2d (0 : Int64))), .second, .val (.int (0 : Int32)), .val (.int (-1 : Int32)), .val (.int (0 : Int32)), .val (.int (1 : Int32)), .unset, .unset, .unset] [(.double (FP.l2d (0 : Int64))), (.double (FP.l2d (1 : Int64))), (.int (0 : Int32)), (.ref ao)]) (fun _ kx_ => XS.dloadN X101.here hx rfl (hb hby d7_27) rfl kx_) ?_
    obtain ⟨cq102, q102, q102'⟩ := ue.cell
    obtain ⟨_, _, ⟨T102, L102, k102, n102⟩, -, X102, ⟨Lc102, hQ102, l102, y102, z102⟩, st102⟩ := X101.privateBack hx (y := (⟨"com/example/stummel/stummel/geometry/PendingCrossings", "comesBefore", "(IDD)Z"⟩ : MethodName)) hown (mvT hZ (hw _ (List.mem_of_getElem? (i := 46) rfl))) (mvT hZ (hw _ (List.mem_of_getElem? (i := 47) rfl))) (W.privSel hZ (hw _ (List.mem_of_getElem? (i := 7) rfl)) (hw _ (List.mem_of_getElem? (i := 48) rfl)) (hw _ (List.mem_of_getElem? (i := 47) rfl)) rfl (by decide)) (Cond.privateMethod_at (mvP hZ (hw _ (List.mem_of_getElem? (i := 48) rfl)) (args := #[]))) (mvT hZ (hw _ (List.mem_of_getElem? (i := 49) rfl))) (by decide) (backOf (W := 0) (rm8_01 l Z a0 hw [] ao zb zx zy zf zd zn zp S h0 n0 Z0 H1) hZ (hw _ (List.mem_of_getElem? (i := 49) rfl)) (hw _ (List.mem_of_getElem? (i := 8) rfl)) (by decide) (by decide)) (g := (mkF m 28 #[.val (.ref ao), .val (.double (FP.l2d (1 : Int64))), .second, .val (.double (FP.l2d (0 : Int64))), .second, .val (.int (0 : Int32)), .val (.int (-1 : Int32)), .val (.int (0 : Int32)), .val (.int (1 : Int32)), .unset, .unset, .unset] [(.double (FP.l2d (0 : Int64))), (.double (FP.l2d (1 : Int64))), (.int (0 : Int32)), (.ref ao)])) rfl (by rw [hml]; rfl) (Steps.refl _) (a := ao) (by rw [e101]; exact q102) q102' (argsL := [(.int (0 : Int32)), (.double (FP.l2d (1 : Int64))), (.double (FP.l2d (0 : Int64)))]) (rest := []) (lenOf pd_1 rfl) rfl (by show 2 * 0 + _ ≤ _; exact Nat.le_of_eq rfl) (hb hby d7_28) (fun _ _ => ⟨rfl, e101, (by decide : 0 + 0 ≤ _), (by decide : 0 + 0 ≤ _)⟩)
    dsimp only [Pt.U, Pt.locs, Pt.cells, Pt.slots] at X102 l102 y102 z102 st102 hQ102
    subst l102 y102 z102
    obtain ⟨rfl, Nq102, eq102⟩ := hQ102
    have N102 := Fr.app N0 Nq102
    refine W.s3 (mkF m 31 #[.val (.ref ao), .val (.double (FP.l2d (1 : Int64))), .second, .val (.double (FP.l2d (0 : Int64))), .second, .val (.int (0 : Int32)), .val (.int (-1 : Int32)), .val (.int (0 : Int32)), .val (.int (1 : Int32)), .unset, .unset, .unset] [(.int (1 : Int32))]) st102 ?_
    refine W.ifc X102 hx (hb hby d7_31) (pc' := 75) (pc'' := 34) (by decide) (by decide) rfl (fun (c31 : (1 : Int32) = (0 : Int32)) => ?_) (fun (c31 : ¬ (1 : Int32) = (0 : Int32)) => ?_)
    · exact absurd c31 (by decide)
    · refine W.s1 (mkF m 36 #[.val (.ref ao), .val (.double (FP.l2d (1 : Int64))), .second, .val (.double (FP.l2d (0 : Int64))), .second, .val (.int (0 : Int32)), .val (.int (-1 : Int32)), .val (.int (0 : Int32)), .val (.int (1 : Int32)), .unset, .unset, .unset] [(.int (0 : Int32))]) (fun _ kx_ => XS.iload X102.here hx rfl (hb hby d7_34) rfl kx_) ?_
      refine W.s1 (mkF m 38 #[.val (.ref ao), .val (.double (FP.l2d (1 : Int64))), .second, .val (.double (FP.l2d (0 : Int64))), .second, .val (.int (0 : Int32)), .val (.int (0 : Int32)), .val (.int (0 : Int32)), .val (.int (1 : Int32)), .unset, .unset, .unset] []) (fun _ kx_ => XS.istore X102.here hx rfl (hb hby d7_36) rfl (l' := #[.val (.ref ao), .val (.double (FP.l2d (1 : Int64))), .second, .val (.double (FP.l2d (0 : Int64))), .second, .val (.int (0 : Int32)), .val (.int (0 : Int32)), .val (.int (0 : Int32)), .val (.int (1 : Int32)), .unset, .unset, .unset]) rfl kx_) ?_
      refine W.s1 (mkF m 40 #[.val (.ref ao), .val (.double (FP.l2d (1 : Int64))), .second, .val (.double (FP.l2d (0 : Int64))), .second, .val (.int (0 : Int32)), .val (.int (0 : Int32)), .val (.int (0 : Int32)), .val (.int (1 : Int32)), .unset, .unset, .unset] [(.int (1 : Int32))]) (fun _ kx_ => XS.iload X102.here hx rfl (hb hby d7_38) rfl kx_) ?_
      refine W.s1 (mkF m 41 #[.val (.ref ao), .val (.double (FP.l2d (1 : Int64))), .second, .val (.double (FP.l2d (0 : Int64))), .second, .val (.int (0 : Int32)), .val (.int (0 : Int32)), .val (.int (0 : Int32)), .val (.int (1 : Int32)), .unset, .unset, .unset] [(.ref ao), (.int (1 : Int32))]) (fun _ kx_ => XS.aloadN X102.here hx rfl (hb hby d7_40) rfl rfl kx_) ?_
      refine W.getf X102 hx hZ hown (host := "") (Or.inl (hw _ (List.mem_of_getElem? (i := 16) rfl))) Via.refl eq102 ur0 (hb hby d7_41) (pc' := 44) rfl (fun T103 X103 e103 => ?_)
      refine W.alen X103 hx hZ e103 ua0 (z := (2 : Int32)) rfl (hb hby d7_44) (pc' := 45) rfl ?_
      refine W.s1 (mkF m 47 #[.val (.ref ao), .val (.double (FP.l2d (1 : Int64))), .second, .val (.double (FP.l2d (0 : Int64))), .second, .val (.int (0 : Int32)), .val (.int (0 : Int32)), .val (.int (0 : Int32)), .val (.int (1 : Int32)), .unset, .unset, .unset] [(.int (0 : Int32)), (.int (2 : Int32)), (.int (1 : Int32))]) (fun _ kx_ => XS.iload X103.here hx rfl (hb hby d7_45) rfl kx_) ?_
      refine W.s1 (mkF m 48 #[.val (.ref ao), .val (.double (FP.l2d (1 : Int64))), .second, .val (.double (FP.l2d (0 : Int64))), .second, .val (.int (0 : Int32)), .val (.int (0 : Int32)), .val (.int (0 : Int32)), .val (.int (1 : Int32)), .unset, .unset, .unset] [(.int (2 : Int32)), (.int (1 : Int32))]) (fun _ kx_ => XS.isub X103.here hx rfl (hb hby d7_47) rfl kx_) ?_
      refine W.icmp X103 hx (hb hby d7_48) (pc' := 59) (pc'' := 51) (by decide) (by decide) rfl (fun (c48 : ¬ (1 : Int32) < (2 : Int32)) => ?_) (fun (c48 : (1 : Int32) < (2 : Int32)) => ?_)
      · exact absurd c48 (by decide)
      · refine W.s1 (mkF m 53 #[.val (.ref ao), .val (.double (FP.l2d (1 : Int64))), .second, .val (.double (FP.l2d (0 : Int64))), .second, .val (.int (0 : Int32)), .val (.int (0 : Int32)), .val (.int (0 : Int32)), .val (.int (1 : Int32)), .unset, .unset, .unset] [(.int (0 : Int32))]) (fun _ kx_ => XS.iload X103.here hx rfl (hb hby d7_51) rfl kx_) ?_
        refine W.s1 (mkF m 55 #[.val (.ref ao), .val (.double (FP.l2d (1 : Int64))), .second, .val (.double (FP.l2d (0 : Int64))), .second, .val (.int (0 : Int32)), .val (.int (0 : Int32)), .val (.int (0 : Int32)), .val (.int (1 : Int32)), .unset, .unset, .unset] [(.int (1 : Int32)), (.int (0 : Int32))]) (fun _ kx_ => XS.iload X103.here hx rfl (hb hby d7_53) rfl kx_) ?_
        refine W.s1 (mkF m 56 #[.val (.ref ao), .val (.double (FP.l2d (1 : Int64))), .second, .val (.double (FP.l2d (0 : Int64))), .second, .val (.int (0 : Int32)), .val (.int (0 : Int32)), .val (.int (0 : Int32)), .val (.int (1 : Int32)), .unset, .unset, .unset] [(.int (1 : Int32))]) (fun _ kx_ => XS.iadd X103.here hx rfl (hb hby d7_55) rfl kx_) ?_
        refine W.s1 (mkF m 64 #[.val (.ref ao), .val (.double (FP.l2d (1 : Int64))), .second, .val (.double (FP.l2d (0 : Int64))), .second, .val (.int (0 : Int32)), .val (.int (0 : Int32)), .val (.int (0 : Int32)), .val (.int (1 : Int32)), .unset, .unset, .unset] [(.int (1 : Int32))]) (fun _ kx_ => XS.goto X103.here hx rfl (pc0 := 56) (pc' := 64) rfl (hb hby d7_56) (by decide) (by decide) kx_) ?_
        refine W.s1 (mkF m 66 #[.val (.ref ao), .val (.double (FP.l2d (1 : Int64))), .second, .val (.double (FP.l2d (0 : Int64))), .second, .val (.int (0 : Int32)), .val (.int (0 : Int32)), .val (.int (1 : Int32)), .val (.int (1 : Int32)), .unset, .unset, .unset] []) (fun _ kx_ => XS.istore X103.here hx rfl (hb hby d7_64) rfl (l' := #[.val (.ref ao), .val (.double (FP.l2d (1 : Int64))), .second, .val (.double (FP.l2d (0 : Int64))), .second, .val (.int (0 : Int32)), .val (.int (0 : Int32)), .val (.int (1 : Int32)), .val (.int (1 : Int32)), .unset, .unset, .unset]) rfl kx_) ?_
        refine W.s1 (mkF m 68 #[.val (.ref ao), .val (.double (FP.l2d (1 : Int64))), .second, .val (.double (FP.l2d (0 : Int64))), .second, .val (.int (0 : Int32)), .val (.int (0 : Int32)), .val (.int (1 : Int32)), .val (.int (1 : Int32)), .unset, .unset, .unset] [(.int (1 : Int32))]) (fun _ kx_ => XS.iload X103.here hx rfl (hb hby d7_66) rfl kx_) ?_
        refine W.s1 (mkF m 69 #[.val (.ref ao), .val (.double (FP.l2d (1 : Int64))), .second, .val (.double (FP.l2d (0 : Int64))), .second, .val (.int (0 : Int32)), .val (.int (0 : Int32)), .val (.int (1 : Int32)), .val (.int (1 : Int32)), .unset, .unset, .unset] [(.int (2 : Int32)), (.int (1 : Int32))]) (fun _ kx_ => XS.iconst X103.here hx rfl (hb hby d7_68) kx_) ?_
        refine W.s1 (mkF m 70 #[.val (.ref ao), .val (.double (FP.l2d (1 : Int64))), .second, .val (.double (FP.l2d (0 : Int64))), .second, .val (.int (0 : Int32)), .val (.int (0 : Int32)), .val (.int (1 : Int32)), .val (.int (1 : Int32)), .unset, .unset, .unset] [(.int (2 : Int32))]) (fun _ kx_ => XS.imul X103.here hx rfl (hb hby d7_69) rfl kx_) ?_
        refine W.s1 (mkF m 72 #[.val (.ref ao), .val (.double (FP.l2d (1 : Int64))), .second, .val (.double (FP.l2d (0 : Int64))), .second, .val (.int (0 : Int32)), .val (.int (0 : Int32)), .val (.int (1 : Int32)), .val (.int (2 : Int32)), .unset, .unset, .unset] []) (fun _ kx_ => XS.istore X103.here hx rfl (hb hby d7_70) rfl (l' := #[.val (.ref ao), .val (.double (FP.l2d (1 : Int64))), .second, .val (.double (FP.l2d (0 : Int64))), .second, .val (.int (0 : Int32)), .val (.int (0 : Int32)), .val (.int (1 : Int32)), .val (.int (2 : Int32)), .unset, .unset, .unset]) rfl kx_) ?_
        refine W.s1 (mkF m 13 #[.val (.ref ao), .val (.double (FP.l2d (1 : Int64))), .second, .val (.double (FP.l2d (0 : Int64))), .second, .val (.int (0 : Int32)), .val (.int (0 : Int32)), .val (.int (1 : Int32)), .val (.int (2 : Int32)), .unset, .unset, .unset] []) (fun _ kx_ => XS.goto X103.here hx rfl (pc0 := 72) (pc' := 13) rfl (hb hby d7_72) (by decide) (by decide) kx_) ?_
        refine W.s1 (mkF m 15 #[.val (.ref ao), .val (.double (FP.l2d (1 : Int64))), .second, .val (.double (FP.l2d (0 : Int64))), .second, .val (.int (0 : Int32)), .val (.int (0 : Int32)), .val (.int (1 : Int32)), .val (.int (2 : Int32)), .unset, .unset, .unset] [(.int (1 : Int32))]) (fun _ kx_ => XS.iload X103.here hx rfl (hb hby d7_13) rfl kx_) ?_
        refine W.s1 (mkF m 16 #[.val (.ref ao), .val (.double (FP.l2d (1 : Int64))), .second, .val (.double (FP.l2d (0 : Int64))), .second, .val (.int (0 : Int32)), .val (.int (0 : Int32)), .val (.int (1 : Int32)), .val (.int (2 : Int32)), .unset, .unset, .unset] [(.ref ao), (.int (1 : Int32))]) (fun _ kx_ => XS.aloadN X103.here hx rfl (hb hby d7_15) rfl rfl kx_) ?_
        refine W.getf X103 hx hZ hown (host := "") (Or.inl (hw _ (List.mem_of_getElem? (i := 16) rfl))) Via.refl e103 ur0 (hb hby d7_16) (pc' := 19) rfl (fun T104 X104 e104 => ?_)
        refine W.alen X104 hx hZ e104 ua0 (z := (2 : Int32)) rfl (hb hby d7_19) (pc' := 20) rfl ?_
        refine W.icmp X104 hx (hb hby d7_20) (pc' := 75) (pc'' := 23) (by decide) (by decide) rfl (fun (c20 : ¬ (1 : Int32) < (2 : Int32)) => ?_) (fun (c20 : (1 : Int32) < (2 : Int32)) => ?_)
        · exact absurd c20 (by decide)
        · refine W.s1 (mkF m 24 #[.val (.ref ao), .val (.double (FP.l2d (1 : Int64))), .second, .val (.double (FP.l2d (0 : Int64))), .second, .val (.int (0 : Int32)), .val (.int (0 : Int32)), .val (.int (1 : Int32)), .val (.int (2 : Int32)), .unset, .unset, .unset] [(.ref ao)]) (fun _ kx_ => XS.aloadN X104.here hx rfl (hb hby d7_23) rfl rfl kx_) ?_
          refine W.s1 (mkF m 26 #[.val (.ref ao), .val (.double (FP.l2d (1 : Int64))), .second, .val (.double (FP.l2d (0 : Int64))), .second, .val (.int (0 : Int32)), .val (.int (0 : Int32)), .val (.int (1 : Int32)), .val (.int (2 : Int32)), .unset, .unset, .unset] [(.int (1 : Int32)), (.ref ao)]) (fun _ kx_ => XS.iload X104.here hx rfl (hb hby d7_24) rfl kx_) ?_
          refine W.s1 (mkF m 27 #[.val (.ref ao), .val (.double (FP.l2d (1 : Int64))), .second, .val (.double (FP.l2d (0 : Int64))), .second, .val (.int (0 : Int32)), .val (.int (0 : Int32)), .val (.int (1 : Int32)), .val (.int (2 : Int32)), .unset, .unset, .unset] [(.double (FP.l2d (1 : Int64))), (.int (1 : Int32)), (.ref ao)]) (fun _ kx_ => XS.dloadN X104.here hx rfl (hb hby d7_26) rfl kx_) ?_
          refine W.s1 (mkF m 28 #[.val (.ref ao), .val (.double (FP.l2d (1 : Int64))), .second, .val (.double (FP.l2d (0 : Int64))), .second, .val (.int (0 : Int32)), .val (.int (0 : Int32)), .val (.int (1 : Int32)), .val (.int (2 : Int32)), .unset, .unset, .unset] [(.double (FP.l2d (0 : Int64))), (.double (FP.l2d (1 : Int64))), (.int (1 : Int32)), (.ref ao)]) (fun _ kx_ => XS.dloadN X104.here hx rfl (hb hby d7_27) rfl kx_) ?_
          obtain ⟨cq105, q105, q105'⟩ := ue.cell
          obtain ⟨_, _, ⟨T105, L105, k105, n105⟩, -, X105, ⟨Lc105, hQ105, l105, y105, z105⟩, st105⟩ := X104.privateBack hx (y := (⟨"com/example/stummel/stummel/geometry/PendingCrossings", "comesBefore", "(IDD)Z"⟩ : MethodName)) hown (mvT hZ (hw _ (List.mem_of_getElem? (i := 46) rfl))) (mvT hZ (hw _ (List.mem_of_getElem? (i := 47) rfl))) (W.privSel hZ (hw _ (List.mem_of_getElem? (i := 7) rfl)) (hw _ (List.mem_of_getElem? (i := 48) rfl)) (hw _ (List.mem_of_getElem? (i := 47) rfl)) rfl (by decide)) (Cond.privateMethod_at (mvP hZ (hw _ (List.mem_of_getElem? (i := 48) rfl)) (args := #[]))) (mvT hZ (hw _ (List.mem_of_getElem? (i := 49) rfl))) (by decide) (backOf (W := 0) (rm8_11 l Z a0 hw [] ao zb zx zy zf zd zn zp S h0 n0 Z0 H1) hZ (hw _ (List.mem_of_getElem? (i := 49) rfl)) (hw _ (List.mem_of_getElem? (i := 8) rfl)) (by decide) (by decide)) (g := (mkF m 28 #[.val (.ref ao), .val (.double (FP.l2d (1 : Int64))), .second, .val (.double (FP.l2d (0 : Int64))), .second, .val (.int (0 : Int32)), .val (.int (0 : Int32)), .val (.int (1 : Int32)), .val (.int (2 : Int32)), .unset, .unset, .unset] [(.double (FP.l2d (0 : Int64))), (.double (FP.l2d (1 : Int64))), (.int (1 : Int32)), (.ref ao)])) rfl (by rw [hml]; rfl) (Steps.refl _) (a := ao) (by rw [e104]; exact q105) q105' (argsL := [(.int (1 : Int32)), (.double (FP.l2d (1 : Int64))), (.double (FP.l2d (0 : Int64)))]) (rest := []) (lenOf pd_1 rfl) rfl (by show 2 * 0 + _ ≤ _; exact Nat.le_of_eq rfl) (hb hby d7_28) (fun _ _ => ⟨rfl, e104, (by decide : 0 + 0 ≤ _), (by decide : 0 + 0 ≤ _)⟩)
          dsimp only [Pt.U, Pt.locs, Pt.cells, Pt.slots] at X105 l105 y105 z105 st105 hQ105
          subst l105 y105 z105
          obtain ⟨rfl, Nq105, eq105⟩ := hQ105
          have N105 := Fr.app N102 Nq105
          refine W.s3 (mkF m 31 #[.val (.ref ao), .val (.double (FP.l2d (1 : Int64))), .second, .val (.double (FP.l2d (0 : Int64))), .second, .val (.int (0 : Int32)), .val (.int (0 : Int32)), .val (.int (1 : Int32)), .val (.int (2 : Int32)), .unset, .unset, .unset] [(.int (0 : Int32))]) st105 ?_
          refine W.ifc X105 hx (hb hby d7_31) (pc' := 75) (pc'' := 34) (by decide) (by decide) rfl (fun (c31 : (0 : Int32) = (0 : Int32)) => ?_) (fun (c31 : ¬ (0 : Int32) = (0 : Int32)) => ?_)
          · refine W.s1 (mkF m 77 #[.val (.ref ao), .val (.double (FP.l2d (1 : Int64))), .second, .val (.double (FP.l2d (0 : Int64))), .second, .val (.int (0 : Int32)), .val (.int (0 : Int32)), .val (.int (1 : Int32)), .val (.int (2 : Int32)), .unset, .unset, .unset] [(.int (0 : Int32))]) (fun _ kx_ => XS.iload X105.here hx rfl (hb hby d7_75) rfl kx_) ?_
            refine W.s1 (mkF m 78 #[.val (.ref ao), .val (.double (FP.l2d (1 : Int64))), .second, .val (.double (FP.l2d (0 : Int64))), .second, .val (.int (0 : Int32)), .val (.int (0 : Int32)), .val (.int (1 : Int32)), .val (.int (2 : Int32)), .unset, .unset, .unset] [(.int (1 : Int32)), (.int (0 : Int32))]) (fun _ kx_ => XS.iconst X105.here hx rfl (hb hby d7_77) kx_) ?_
            refine W.s1 (mkF m 79 #[.val (.ref ao), .val (.double (FP.l2d (1 : Int64))), .second, .val (.double (FP.l2d (0 : Int64))), .second, .val (.int (0 : Int32)), .val (.int (0 : Int32)), .val (.int (1 : Int32)), .val (.int (2 : Int32)), .unset, .unset, .unset] [(.int (1 : Int32))]) (fun _ kx_ => XS.iadd X105.here hx rfl (hb hby d7_78) rfl kx_) ?_
            refine W.s1 (mkF m 81 #[.val (.ref ao), .val (.double (FP.l2d (1 : Int64))), .second, .val (.double (FP.l2d (0 : Int64))), .second, .val (.int (0 : Int32)), .val (.int (0 : Int32)), .val (.int (1 : Int32)), .val (.int (2 : Int32)), .val (.int (1 : Int32)), .unset, .unset] []) (fun _ kx_ => XS.istore X105.here hx rfl (hb hby d7_79) rfl (l' := #[.val (.ref ao), .val (.double (FP.l2d (1 : Int64))), .second, .val (.double (FP.l2d (0 : Int64))), .second, .val (.int (0 : Int32)), .val (.int (0 : Int32)), .val (.int (1 : Int32)), .val (.int (2 : Int32)), .val (.int (1 : Int32)), .unset, .unset]) rfl kx_) ?_
            refine W.s1 (mkF m 83 #[.val (.ref ao), .val (.double (FP.l2d (1 : Int64))), .second, .val (.double (FP.l2d (0 : Int64))), .second, .val (.int (0 : Int32)), .val (.int (0 : Int32)), .val (.int (1 : Int32)), .val (.int (2 : Int32)), .val (.int (1 : Int32)), .unset, .unset] [(.int (1 : Int32))]) (fun _ kx_ => XS.iload X105.here hx rfl (hb hby d7_81) rfl kx_) ?_
            refine W.s1 (mkF m 85 #[.val (.ref ao), .val (.double (FP.l2d (1 : Int64))), .second, .val (.double (FP.l2d (0 : Int64))), .second, .val (.int (0 : Int32)), .val (.int (0 : Int32)), .val (.int (1 : Int32)), .val (.int (2 : Int32)), .val (.int (1 : Int32)), .val (.int (1 : Int32)), .unset] []) (fun _ kx_ => XS.istore X105.here hx rfl (hb hby d7_83) rfl (l' := #[.val (.ref ao), .val (.double (FP.l2d (1 : Int64))), .second, .val (.double (FP.l2d (0 : Int64))), .second, .val (.int (0 : Int32)), .val (.int (0 : Int32)), .val (.int (1 : Int32)), .val (.int (2 : Int32)), .val (.int (1 : Int32)), .val (.int (1 : Int32)), .unset]) rfl kx_) ?_
            refine W.s1 (mkF m 87 #[.val (.ref ao), .val (.double (FP.l2d (1 : Int64))), .second, .val (.double (FP.l2d (0 : Int64))), .second, .val (.int (0 : Int32)), .val (.int (0 : Int32)), .val (.int (1 : Int32)), .val (.int (2 : Int32)), .val (.int (1 : Int32)), .val (.int (1 : Int32)), .unset] [(.int (1 : Int32))]) (fun _ kx_ => XS.iload X105.here hx rfl (hb hby d7_85) rfl kx_) ?_
            refine W.s1 (mkF m 89 #[.val (.ref ao), .val (.double (FP.l2d (1 : Int64))), .second, .val (.double (FP.l2d (0 : Int64))), .second, .val (.int (0 : Int32)), .val (.int (0 : Int32)), .val (.int (1 : Int32)), .val (.int (2 : Int32)), .val (.int (1 : Int32)), .val (.int (1 : Int32)), .unset] [(.int (1 : Int32)), (.int (1 : Int32))]) (fun _ kx_ => XS.iload X105.here hx rfl (hb hby d7_87) rfl kx_) ?_
            refine W.icmp X105 hx (hb hby d7_89) (pc' := 128) (pc'' := 92) (by decide) (by decide) rfl (fun (c89 : ¬ (1 : Int32) < (1 : Int32)) => ?_) (fun (c89 : (1 : Int32) < (1 : Int32)) => ?_)
            · refine W.s1 (mkF m 130 #[.val (.ref ao), .val (.double (FP.l2d (1 : Int64))), .second, .val (.double (FP.l2d (0 : Int64))), .second, .val (.int (0 : Int32)), .val (.int (0 : Int32)), .val (.int (1 : Int32)), .val (.int (2 : Int32)), .val (.int (1 : Int32)), .val (.int (1 : Int32)), .unset] [(.int (1 : Int32))]) (fun _ kx_ => XS.iload X105.here hx rfl (hb hby d7_128) rfl kx_) ?_
              exact W.retI X105 hx hlk Bd.returns (hb hby d7_130) (by show Q7_1 Z ao zb zx zy zf zd zn zp S h0 n0 _ T105.heap _; rw [eq105]; exact ⟨rfl, N105, rfl⟩) (by decide) (by decide)
            · exact absurd c89 (by decide)
          · exact absurd c31 (by decide)
theorem ef_6_0 (m : MethodId) (x0 : Addr) (x1 : Int32) (x2 : UInt64) (x3 : UInt64) (x4 : Int32) : entryFrame m #[(.ref x0), (.int x1), (.double x2), (.double x3), (.int x4)] 8 = mkF m 0 #[.val (.ref x0), .val (.int x1), .val (.double x2), .second, .val (.double x3), .second, .val (.int x4), .unset] [] := by first | (simp [entryFrame, mkF, argsToLocals, Value.category]; done) | rfl
theorem d6_0 : decode prog_7_method_2_code 0 = .ok (.aload_n 0, 1) := by decide +kernel
theorem d6_1 : decode prog_7_method_2_code 1 = .ok (.getfield 29, 3) := by decide +kernel
theorem d6_4 : decode prog_7_method_2_code 4 = .ok (.iload_n 1, 1) := by decide +kernel
theorem d6_5 : decode prog_7_method_2_code 5 = .ok (.iaload, 1) := by decide +kernel
theorem d6_6 : decode prog_7_method_2_code 6 = .ok (.iconst (-1), 1) := by decide +kernel
theorem d6_7 : decode prog_7_method_2_code 7 = .ok (.if_icmp .eq 17, 3) := by decide +kernel
theorem d6_24 : decode prog_7_method_2_code 24 = .ok (.aload_n 0, 1) := by decide +kernel
theorem d6_25 : decode prog_7_method_2_code 25 = .ok (.dload_n 2, 1) := by decide +kernel
theorem d6_26 : decode prog_7_method_2_code 26 = .ok (.dload 4, 2) := by decide +kernel
theorem d6_28 : decode prog_7_method_2_code 28 = .ok (.iload 6, 2) := by decide +kernel
theorem d6_30 : decode prog_7_method_2_code 30 = .ok (.iconst 1, 1) := by decide +kernel
theorem d6_31 : decode prog_7_method_2_code 31 = .ok (.iadd, 1) := by decide +kernel
theorem d6_32 : decode prog_7_method_2_code 32 = .ok (.invokevirtual 47, 3) := by decide +kernel
theorem pd_2 : parseMethodDescriptor "(DDI)I" = some ⟨[.double, .double, .int], some .int⟩ := by decide +kernel
theorem d6_35 : decode prog_7_method_2_code 35 = .ok (.istore 7, 2) := by decide +kernel
theorem d6_37 : decode prog_7_method_2_code 37 = .ok (.iload 7, 2) := by decide +kernel
theorem d6_39 : decode prog_7_method_2_code 39 = .ok (.aload_n 0, 1) := by decide +kernel
theorem d6_40 : decode prog_7_method_2_code 40 = .ok (.getfield 7, 3) := by decide +kernel
theorem d6_43 : decode prog_7_method_2_code 43 = .ok (.arraylength, 1) := by decide +kernel
theorem d6_44 : decode prog_7_method_2_code 44 = .ok (.if_icmp .ne 17, 3) := by decide +kernel
theorem d6_61 : decode prog_7_method_2_code 61 = .ok (.aload_n 0, 1) := by decide +kernel
theorem d6_62 : decode prog_7_method_2_code 62 = .ok (.getfield 29, 3) := by decide +kernel
theorem d6_65 : decode prog_7_method_2_code 65 = .ok (.iload_n 1, 1) := by decide +kernel
theorem d6_66 : decode prog_7_method_2_code 66 = .ok (.iload 7, 2) := by decide +kernel
theorem d6_68 : decode prog_7_method_2_code 68 = .ok (.iastore, 1) := by decide +kernel
theorem d6_69 : decode prog_7_method_2_code 69 = .ok (.aload_n 0, 1) := by decide +kernel
theorem d6_70 : decode prog_7_method_2_code 70 = .ok (.getfield 35, 3) := by decide +kernel
theorem d6_73 : decode prog_7_method_2_code 73 = .ok (.iload_n 1, 1) := by decide +kernel
theorem d6_74 : decode prog_7_method_2_code 74 = .ok (.iconst (-1), 1) := by decide +kernel
theorem d6_75 : decode prog_7_method_2_code 75 = .ok (.iastore, 1) := by decide +kernel
theorem d6_76 : decode prog_7_method_2_code 76 = .ok (.aload_n 0, 1) := by decide +kernel
theorem d6_77 : decode prog_7_method_2_code 77 = .ok (.getfield 32, 3) := by decide +kernel
theorem d6_80 : decode prog_7_method_2_code 80 = .ok (.iload_n 1, 1) := by decide +kernel
theorem d6_81 : decode prog_7_method_2_code 81 = .ok (.aload_n 0, 1) := by decide +kernel
theorem d6_82 : decode prog_7_method_2_code 82 = .ok (.getfield 20, 3) := by decide +kernel
theorem d6_85 : decode prog_7_method_2_code 85 = .ok (.iload 7, 2) := by decide +kernel
theorem d6_87 : decode prog_7_method_2_code 87 = .ok (.iaload, 1) := by decide +kernel
theorem d6_88 : decode prog_7_method_2_code 88 = .ok (.iastore, 1) := by decide +kernel
theorem d6_89 : decode prog_7_method_2_code 89 = .ok (.aload_n 0, 1) := by decide +kernel
theorem d6_90 : decode prog_7_method_2_code 90 = .ok (.getfield 20, 3) := by decide +kernel
theorem d6_93 : decode prog_7_method_2_code 93 = .ok (.iload 7, 2) := by decide +kernel
theorem d6_95 : decode prog_7_method_2_code 95 = .ok (.iaload, 1) := by decide +kernel
theorem d6_96 : decode prog_7_method_2_code 96 = .ok (.iconst (-1), 1) := by decide +kernel
theorem d6_97 : decode prog_7_method_2_code 97 = .ok (.if_icmp .eq 16, 3) := by decide +kernel
theorem d6_113 : decode prog_7_method_2_code 113 = .ok (.aload_n 0, 1) := by decide +kernel
theorem d6_114 : decode prog_7_method_2_code 114 = .ok (.getfield 20, 3) := by decide +kernel
theorem d6_117 : decode prog_7_method_2_code 117 = .ok (.iload 7, 2) := by decide +kernel
theorem d6_119 : decode prog_7_method_2_code 119 = .ok (.iload_n 1, 1) := by decide +kernel
theorem d6_120 : decode prog_7_method_2_code 120 = .ok (.iastore, 1) := by decide +kernel
theorem d6_121 : decode prog_7_method_2_code 121 = .ok (.return_, 1) := by decide +kernel
theorem d6_100 : decode prog_7_method_2_code 100 = .ok (.aload_n 0, 1) := by decide +kernel
theorem d6_101 : decode prog_7_method_2_code 101 = .ok (.getfield 35, 3) := by decide +kernel
theorem d6_104 : decode prog_7_method_2_code 104 = .ok (.aload_n 0, 1) := by decide +kernel
theorem d6_105 : decode prog_7_method_2_code 105 = .ok (.getfield 20, 3) := by decide +kernel
theorem d6_108 : decode prog_7_method_2_code 108 = .ok (.iload 7, 2) := by decide +kernel
theorem d6_110 : decode prog_7_method_2_code 110 = .ok (.iaload, 1) := by decide +kernel
theorem d6_111 : decode prog_7_method_2_code 111 = .ok (.iload_n 1, 1) := by decide +kernel
theorem d6_112 : decode prog_7_method_2_code 112 = .ok (.iastore, 1) := by decide +kernel
def Q6_0 (Z : State) (ao : Addr) (xs : Int32) (zb : Addr) (zx : Addr) (zy : Addr) (zf : Addr) (zd : Addr) (zn : Addr) (zp : Addr) (S : own_S) (k : Nat) (h0 : Heap) (n0 : Nat) (v : Option Value) (h : Heap) (L : List Loc) : Prop := v = none ∧ Fr n0 L ∧ Keep h0 h [zf, zd, zn, zp] ∧ own_PC Z h ao zb zx zy zf zd zn zp (own_add 0 0 xs k S)
set_option maxRecDepth 65536 in
set_option maxHeartbeats 40000000 in
theorem rm6_0 (l : Launch) (Z : State) (a0 : Array Value) (hw : ∀ d ∈ tables_1, d.before a0 Z = true) (ws : List Jvm.Cond) (ao : Addr) (xs : Int32) (zb : Addr) (zx : Addr) (zy : Addr) (zf : Addr) (zd : Addr) (zn : Addr) (zp : Addr) (S : own_S) (k : Nat) (h0 : Heap) (n0 : Nat) (Z0 : n0 ≤ h0.size) (H0 : own_PC Z h0 ao zb zx zy zf zd zn zp S) (ho : own_ord ao zb zx zy zf zd zn zp) (hge : own_ge n0 ao zb zx zy zf zd zn zp) (hk : xs.toInt = k) (hk3 : k < 3) (hv : own_addV 0 k S = true) :
    MetFree l (⟨"com/example/stummel/stummel/geometry/PendingCrossings", "add", "(IDDI)V"⟩ : MethodName) (head1 (Jvm.Cond.code (⟨"com/example/stummel/stummel/geometry/PendingCrossings", "add", "(IDDI)V"⟩ : MethodName) prog_7_method_2_code 8 none :: ws) ({ frames := 2, cells := 0, slots := 0, locals := 41 } : Room)) (fun a U => a = #[(.ref ao), (.int xs), (.double (FP.l2d (0 : Int64))), (.double (FP.l2d (0 : Int64))), (.int (-1 : Int32))] ∧ Z.Warmed39 U.vm ∧ U.heap = h0) (fun _ _ _ _ _ => True) (fun _ U o U' => ∃ v L, o = .returned v ∧ Q6_0 Z ao xs zb zx zy zf zd zn zp S k h0 n0 v U'.heap L ∧ FrameEnd U o U' L ({ frames := 2, cells := 0, slots := 0, locals := 41 } : Room).cells ({ frames := 2, cells := 0, slots := 0, locals := 41 } : Room).slots) := by
  refine MetFree.of_bodySF (plainFor_of_name pn_2) hisR ?_
  intro p e s m args below meth c s₁ Bd hml0 hP hK
  obtain ⟨rfl, hZ, hh⟩ := hP
  have hx := Bd.exec
  have hby := Bd.bytes
  have hml : c.maxLocals = 8 := hml0
  have hown : s.vm.findClass "com/example/stummel/stummel/geometry/PendingCrossings" = some m.cls := findClass_of_methodNamed Bd.named
  have hnm := (name_of_methodNamed Bd.named Bd.method).1
  have hlk : meth.locks = false := BodyLoose.notSynchronized Bd
  have X0 : Stand p l e ({ frames := 2, cells := 0, slots := 0, locals := 41 } : Room) s m #[(.ref ao), (.int xs), (.double (FP.l2d (0 : Int64))), (.double (FP.l2d (0 : Int64))), (.int (-1 : Int32))] below meth c s₁ [] 0 0 := Stand.of_body Bd
  have e0 : s₁.heap = h0 := by rw [← hh, Bd.state]; rfl
  have N0 := Fr.nil n0
  show W.Gl p e below s (Q6_0 Z ao xs zb zx zy zf zd zn zp S k h0 n0) ({ frames := 2, cells := 0, slots := 0, locals := 41 } : Room).cells ({ frames := 2, cells := 0, slots := 0, locals := 41 } : Room).slots s₁ (entryFrame m #[(.ref ao), (.int xs), (.double (FP.l2d (0 : Int64))), (.double (FP.l2d (0 : Int64))), (.int (-1 : Int32))] 8)
  refine W.cast (ef_6_0 m ao xs (FP.l2d (0 : Int64)) (FP.l2d (0 : Int64)) (-1 : Int32)) ?_
  have K0 : Keep h0 h0 [zf, zd, zn, zp] := Keep.refl h0 [zf, zd, zn, zp]
  have H1 := H0
  obtain ⟨v1, v2⟩ := own_addA hv
  obtain ⟨ue, ur0, ur1, ur2, ur3, ur4, ur5, ur6, ua0, ua1, ua2, ua3, ua4, ua5, ua6⟩ := H0
  refine W.s1 (mkF m 1 #[.val (.ref ao), .val (.int xs), .val (.double (FP.l2d (0 : Int64))), .second, .val (.double (FP.l2d (0 : Int64))), .second, .val (.int (-1 : Int32)), .unset] [(.ref ao)]) (fun _ kx_ => XS.aloadN X0.here hx rfl (hb hby d6_0) rfl rfl kx_) ?_
  refine W.getf X0 hx hZ hown (host := "") (Or.inl (hw _ (List.mem_of_getElem? (i := 28) rfl))) Via.refl e0 ur4 (hb hby d6_1) (pc' := 4) rfl (fun T101 X101 e101 => ?_)
  refine W.s1 (mkF m 5 #[.val (.ref ao), .val (.int xs), .val (.double (FP.l2d (0 : Int64))), .second, .val (.double (FP.l2d (0 : Int64))), .second, .val (.int (-1 : Int32)), .unset] [(.int xs), (.ref zd)]) (fun _ kx_ => XS.iloadN X101.here hx rfl (hb hby d6_4) rfl kx_) ?_
  refine W.ldi X101 hx hZ e101 ua4 k hk hk3 (hb hby d6_5) (pc' := 6) rfl ?_
  refine W.s1 (mkF m 7 #[.val (.ref ao), .val (.int xs), .val (.double (FP.l2d (0 : Int64))), .second, .val (.double (FP.l2d (0 : Int64))), .second, .val (.int (-1 : Int32)), .unset] [(.int (-1 : Int32)), (.int (S.2.1 k))]) (fun _ kx_ => XS.iconst X101.here hx rfl (hb hby d6_6) kx_) ?_
  refine W.icmp X101 hx (hb hby d6_7) (pc' := 24) (pc'' := 10) (by decide) (by decide) rfl (fun (c7 : (S.2.1 k) = (-1 : Int32)) => ?_) (fun (c7 : ¬ (S.2.1 k) = (-1 : Int32)) => ?_)
  · refine W.s1 (mkF m 25 #[.val (.ref ao), .val (.int xs), .val (.double (FP.l2d (0 : Int64))), .second, .val (.double (FP.l2d (0 : Int64))), .second, .val (.int (-1 : Int32)), .unset] [(.ref ao)]) (fun _ kx_ => XS.aloadN X101.here hx rfl (hb hby d6_24) rfl rfl kx_) ?_
    refine W.s1 (mkF m 26 #[.val (.ref ao), .val (.int xs), .val (.double (FP.l2d (0 : Int64))), .second, .val (.double (FP.l2d (0 : Int64))), .second, .val (.int (-1 : Int32)), .unset] [(.double (FP.l2d (0 : Int64))), (.ref ao)]) (fun _ kx_ => XS.dloadN X101.here hx rfl (hb hby d6_25) rfl kx_) ?_
    refine W.s1 (mkF m 28 #[.val (.ref ao), .val (.int xs), .val (.double (FP.l2d (0 : Int64))), .second, .val (.double (FP.l2d (0 : Int64))), .second, .val (.int (-1 : Int32)), .unset] [(.double (FP.l2d (0 : Int64))), (.double (FP.l2d (0 : Int64))), (.ref ao)]) (fun _ kx_ => XS.dload X101.here hx rfl (hb hby d6_26) rfl kx_) ?_
    refine W.s1 (mkF m 30 #[.val (.ref ao), .val (.int xs), .val (.double (FP.l2d (0 : Int64))), .second, .val (.double (FP.l2d (0 : Int64))), .second, .val (.int (-1 : Int32)), .unset] [(.int (-1 : Int32)), (.double (FP.l2d (0 : Int64))), (.double (FP.l2d (0 : Int64))), (.ref ao)]) (fun _ kx_ => XS.iload X101.here hx rfl (hb hby d6_28) rfl kx_) ?_
    refine W.s1 (mkF m 31 #[.val (.ref ao), .val (.int xs), .val (.double (FP.l2d (0 : Int64))), .second, .val (.double (FP.l2d (0 : Int64))), .second, .val (.int (-1 : Int32)), .unset] [(.int (1 : Int32)), (.int (-1 : Int32)), (.double (FP.l2d (0 : Int64))), (.double (FP.l2d (0 : Int64))), (.ref ao)]) (fun _ kx_ => XS.iconst X101.here hx rfl (hb hby d6_30) kx_) ?_
    refine W.s1 (mkF m 32 #[.val (.ref ao), .val (.int xs), .val (.double (FP.l2d (0 : Int64))), .second, .val (.double (FP.l2d (0 : Int64))), .second, .val (.int (-1 : Int32)), .unset] [(.int (0 : Int32)), (.double (FP.l2d (0 : Int64))), (.double (FP.l2d (0 : Int64))), (.ref ao)]) (fun _ kx_ => XS.iadd X101.here hx rfl (hb hby d6_31) rfl kx_) ?_
    obtain ⟨cq102, q102, q102'⟩ := ue.cell
    obtain ⟨_, _, ⟨T102, L102, k102, n102⟩, -, X102, ⟨Lc102, hQ102, l102, y102, z102⟩, st102⟩ := X101.privateBack hx (y := (⟨"com/example/stummel/stummel/geometry/PendingCrossings", "firstNotBefore", "(DDI)I"⟩ : MethodName)) hown (mvT hZ (hw _ (List.mem_of_getElem? (i := 42) rfl))) (mvT hZ (hw _ (List.mem_of_getElem? (i := 43) rfl))) (W.privSel hZ (hw _ (List.mem_of_getElem? (i := 7) rfl)) (hw _ (List.mem_of_getElem? (i := 44) rfl)) (hw _ (List.mem_of_getElem? (i := 43) rfl)) rfl (by decide)) (Cond.privateMethod_at (mvP hZ (hw _ (List.mem_of_getElem? (i := 44) rfl)) (args := #[]))) (mvT hZ (hw _ (List.mem_of_getElem? (i := 45) rfl))) (by decide) (backOf (W := 0) (rm7_0 l Z a0 hw [] ao zb zx zy zf zd zn zp S h0 n0 Z0 H1) hZ (hw _ (List.mem_of_getElem? (i := 45) rfl)) (hw _ (List.mem_of_getElem? (i := 8) rfl)) (by decide) (by decide)) (g := (mkF m 32 #[.val (.ref ao), .val (.int xs), .val (.double (FP.l2d (0 : Int64))), .second, .val (.double (FP.l2d (0 : Int64))), .second, .val (.int (-1 : Int32)), .unset] [(.int (0 : Int32)), (.double (FP.l2d (0 : Int64))), (.double (FP.l2d (0 : Int64))), (.ref ao)])) rfl (by rw [hml]; rfl) (Steps.refl _) (a := ao) (by rw [e101]; exact q102) q102' (argsL := [(.double (FP.l2d (0 : Int64))), (.double (FP.l2d (0 : Int64))), (.int (0 : Int32))]) (rest := []) (lenOf pd_2 rfl) rfl (by show 2 * 0 + _ ≤ _; exact Nat.le_of_eq rfl) (hb hby d6_32) (fun _ _ => ⟨rfl, e101, (by decide : 0 + 0 ≤ _), (by decide : 0 + 0 ≤ _)⟩)
    dsimp only [Pt.U, Pt.locs, Pt.cells, Pt.slots] at X102 l102 y102 z102 st102 hQ102
    subst l102 y102 z102
    obtain ⟨rfl, Nq102, eq102⟩ := hQ102
    have N102 := Fr.app N0 Nq102
    refine W.s3 (mkF m 35 #[.val (.ref ao), .val (.int xs), .val (.double (FP.l2d (0 : Int64))), .second, .val (.double (FP.l2d (0 : Int64))), .second, .val (.int (-1 : Int32)), .unset] [(.int (0 : Int32))]) st102 ?_
    refine W.s1 (mkF m 37 #[.val (.ref ao), .val (.int xs), .val (.double (FP.l2d (0 : Int64))), .second, .val (.double (FP.l2d (0 : Int64))), .second, .val (.int (-1 : Int32)), .val (.int (0 : Int32))] []) (fun _ kx_ => XS.istore X102.here hx rfl (hb hby d6_35) rfl (l' := #[.val (.ref ao), .val (.int xs), .val (.double (FP.l2d (0 : Int64))), .second, .val (.double (FP.l2d (0 : Int64))), .second, .val (.int (-1 : Int32)), .val (.int (0 : Int32))]) rfl kx_) ?_
    refine W.s1 (mkF m 39 #[.val (.ref ao), .val (.int xs), .val (.double (FP.l2d (0 : Int64))), .second, .val (.double (FP.l2d (0 : Int64))), .second, .val (.int (-1 : Int32)), .val (.int (0 : Int32))] [(.int (0 : Int32))]) (fun _ kx_ => XS.iload X102.here hx rfl (hb hby d6_37) rfl kx_) ?_
    refine W.s1 (mkF m 40 #[.val (.ref ao), .val (.int xs), .val (.double (FP.l2d (0 : Int64))), .second, .val (.double (FP.l2d (0 : Int64))), .second, .val (.int (-1 : Int32)), .val (.int (0 : Int32))] [(.ref ao), (.int (0 : Int32))]) (fun _ kx_ => XS.aloadN X102.here hx rfl (hb hby d6_39) rfl rfl kx_) ?_
    refine W.getf X102 hx hZ hown (host := "") (Or.inl (hw _ (List.mem_of_getElem? (i := 16) rfl))) Via.refl eq102 ur0 (hb hby d6_40) (pc' := 43) rfl (fun T103 X103 e103 => ?_)
    refine W.alen X103 hx hZ e103 ua0 (z := (2 : Int32)) rfl (hb hby d6_43) (pc' := 44) rfl ?_
    refine W.icmp X103 hx (hb hby d6_44) (pc' := 61) (pc'' := 47) (by decide) (by decide) rfl (fun (c44 : ¬ (0 : Int32) = (2 : Int32)) => ?_) (fun (c44 : (0 : Int32) = (2 : Int32)) => ?_)
    · refine W.s1 (mkF m 62 #[.val (.ref ao), .val (.int xs), .val (.double (FP.l2d (0 : Int64))), .second, .val (.double (FP.l2d (0 : Int64))), .second, .val (.int (-1 : Int32)), .val (.int (0 : Int32))] [(.ref ao)]) (fun _ kx_ => XS.aloadN X103.here hx rfl (hb hby d6_61) rfl rfl kx_) ?_
      refine W.getf X103 hx hZ hown (host := "") (Or.inl (hw _ (List.mem_of_getElem? (i := 28) rfl))) Via.refl e103 ur4 (hb hby d6_62) (pc' := 65) rfl (fun T104 X104 e104 => ?_)
      refine W.s1 (mkF m 66 #[.val (.ref ao), .val (.int xs), .val (.double (FP.l2d (0 : Int64))), .second, .val (.double (FP.l2d (0 : Int64))), .second, .val (.int (-1 : Int32)), .val (.int (0 : Int32))] [(.int xs), (.ref zd)]) (fun _ kx_ => XS.iloadN X104.here hx rfl (hb hby d6_65) rfl kx_) ?_
      refine W.s1 (mkF m 68 #[.val (.ref ao), .val (.int xs), .val (.double (FP.l2d (0 : Int64))), .second, .val (.double (FP.l2d (0 : Int64))), .second, .val (.int (-1 : Int32)), .val (.int (0 : Int32))] [(.int (0 : Int32)), (.int xs), (.ref zd)]) (fun _ kx_ => XS.iload X104.here hx rfl (hb hby d6_66) rfl kx_) ?_
      refine W.sti X104 hx hZ e104 ua4 k hk hk3 N102 hge.2.2.2.2.2.1 (hb hby d6_68) (pc' := 69) rfl (fun T105 h105 L105 X105 e105 W105 fw105 N105 => ?_)
      have Z105 : n0 ≤ h105.size := Nat.le_trans Z0 (Keep.of_wr W105).1
      have f106 := ue.wr W105
      have f107 := ur0.other W105 (Or.inl ho.2.2.2.2.1)
      have f108 := ur1.other W105 (Or.inl ho.2.2.2.2.1)
      have f109 := ur2.other W105 (Or.inl ho.2.2.2.2.1)
      have f110 := ur3.other W105 (Or.inl ho.2.2.2.2.1)
      have f111 := ur4.other W105 (Or.inl ho.2.2.2.2.1)
      have f112 := ur5.other W105 (Or.inl ho.2.2.2.2.1)
      have f113 := ur6.other W105 (Or.inl ho.2.2.2.2.1)
      have f114 := ua0.other W105 ho.2.2.2.2.2.2.2.2.2.2.1
      have f115 := ua1.other W105 ho.2.2.2.2.2.2.2.2.2.2.2.2.2.2.2.1
      have f116 := ua2.other W105 ho.2.2.2.2.2.2.2.2.2.2.2.2.2.2.2.2.2.2.2.1
      have f117 := ua3.other W105 ho.2.2.2.2.2.2.2.2.2.2.2.2.2.2.2.2.2.2.2.2.2.2.1
      have f118 := ua5.other W105 (Ne.symm ho.2.2.2.2.2.2.2.2.2.2.2.2.2.2.2.2.2.2.2.2.2.2.2.2.2.1)
      have f119 := ua6.other W105 (Ne.symm ho.2.2.2.2.2.2.2.2.2.2.2.2.2.2.2.2.2.2.2.2.2.2.2.2.2.2.1)
      have K105 : Keep h0 h105 [zf, zd, zn, zp] := K0.wr W105 (Or.inl (List.mem_of_getElem? (i := 1) rfl))
      refine W.s1 (mkF m 70 #[.val (.ref ao), .val (.int xs), .val (.double (FP.l2d (0 : Int64))), .second, .val (.double (FP.l2d (0 : Int64))), .second, .val (.int (-1 : Int32)), .val (.int (0 : Int32))] [(.ref ao)]) (fun _ kx_ => XS.aloadN X105.here hx rfl (hb hby d6_69) rfl rfl kx_) ?_
      refine W.getf X105 hx hZ hown (host := "") (Or.inl (hw _ (List.mem_of_getElem? (i := 32) rfl))) Via.refl e105 f113 (hb hby d6_70) (pc' := 73) rfl (fun T120 X120 e120 => ?_)
      refine W.s1 (mkF m 74 #[.val (.ref ao), .val (.int xs), .val (.double (FP.l2d (0 : Int64))), .second, .val (.double (FP.l2d (0 : Int64))), .second, .val (.int (-1 : Int32)), .val (.int (0 : Int32))] [(.int xs), (.ref zp)]) (fun _ kx_ => XS.iloadN X120.here hx rfl (hb hby d6_73) rfl kx_) ?_
      refine W.s1 (mkF m 75 #[.val (.ref ao), .val (.int xs), .val (.double (FP.l2d (0 : Int64))), .second, .val (.double (FP.l2d (0 : Int64))), .second, .val (.int (-1 : Int32)), .val (.int (0 : Int32))] [(.int (-1 : Int32)), (.int xs), (.ref zp)]) (fun _ kx_ => XS.iconst X120.here hx rfl (hb hby d6_74) kx_) ?_
      refine W.sti X120 hx hZ e120 f119 k hk hk3 N105 hge.2.2.2.2.2.2.2 (hb hby d6_75) (pc' := 76) rfl (fun T121 h121 L121 X121 e121 W121 fw121 N121 => ?_)
      have Z121 : n0 ≤ h121.size := Nat.le_trans Z105 (Keep.of_wr W121).1
      have f122 := f106.wr W121
      have f123 := f107.other W121 (Or.inl ho.2.2.2.2.2.2.1)
      have f124 := f108.other W121 (Or.inl ho.2.2.2.2.2.2.1)
      have f125 := f109.other W121 (Or.inl ho.2.2.2.2.2.2.1)
      have f126 := f110.other W121 (Or.inl ho.2.2.2.2.2.2.1)
      have f127 := f111.other W121 (Or.inl ho.2.2.2.2.2.2.1)
      have f128 := f112.other W121 (Or.inl ho.2.2.2.2.2.2.1)
      have f129 := f113.other W121 (Or.inl ho.2.2.2.2.2.2.1)
      have f130 := f114.other W121 ho.2.2.2.2.2.2.2.2.2.2.2.2.1
      have f131 := f115.other W121 ho.2.2.2.2.2.2.2.2.2.2.2.2.2.2.2.2.2.1
      have f132 := f116.other W121 ho.2.2.2.2.2.2.2.2.2.2.2.2.2.2.2.2.2.2.2.2.2.1
      have f133 := f117.other W121 ho.2.2.2.2.2.2.2.2.2.2.2.2.2.2.2.2.2.2.2.2.2.2.2.2.1
      have f134 := fw105.other W121 ho.2.2.2.2.2.2.2.2.2.2.2.2.2.2.2.2.2.2.2.2.2.2.2.2.2.2.1
      have f135 := f118.other W121 ho.2.2.2.2.2.2.2.2.2.2.2.2.2.2.2.2.2.2.2.2.2.2.2.2.2.2.2
      have K121 : Keep h0 h121 [zf, zd, zn, zp] := K105.wr W121 (Or.inl (List.mem_of_getElem? (i := 3) rfl))
      refine W.s1 (mkF m 77 #[.val (.ref ao), .val (.int xs), .val (.double (FP.l2d (0 : Int64))), .second, .val (.double (FP.l2d (0 : Int64))), .second, .val (.int (-1 : Int32)), .val (.int (0 : Int32))] [(.ref ao)]) (fun _ kx_ => XS.aloadN X121.here hx rfl (hb hby d6_76) rfl rfl kx_) ?_
      refine W.getf X121 hx hZ hown (host := "") (Or.inl (hw _ (List.mem_of_getElem? (i := 30) rfl))) Via.refl e121 f128 (hb hby d6_77) (pc' := 80) rfl (fun T136 X136 e136 => ?_)
      refine W.s1 (mkF m 81 #[.val (.ref ao), .val (.int xs), .val (.double (FP.l2d (0 : Int64))), .second, .val (.double (FP.l2d (0 : Int64))), .second, .val (.int (-1 : Int32)), .val (.int (0 : Int32))] [(.int xs), (.ref zn)]) (fun _ kx_ => XS.iloadN X136.here hx rfl (hb hby d6_80) rfl kx_) ?_
      refine W.s1 (mkF m 82 #[.val (.ref ao), .val (.int xs), .val (.double (FP.l2d (0 : Int64))), .second, .val (.double (FP.l2d (0 : Int64))), .second, .val (.int (-1 : Int32)), .val (.int (0 : Int32))] [(.ref ao), (.int xs), (.ref zn)]) (fun _ kx_ => XS.aloadN X136.here hx rfl (hb hby d6_81) rfl rfl kx_) ?_
      refine W.getf X136 hx hZ hown (host := "") (Or.inl (hw _ (List.mem_of_getElem? (i := 22) rfl))) Via.refl e136 f126 (hb hby d6_82) (pc' := 85) rfl (fun T137 X137 e137 => ?_)
      refine W.s1 (mkF m 87 #[.val (.ref ao), .val (.int xs), .val (.double (FP.l2d (0 : Int64))), .second, .val (.double (FP.l2d (0 : Int64))), .second, .val (.int (-1 : Int32)), .val (.int (0 : Int32))] [(.int (0 : Int32)), (.ref zf), (.int xs), (.ref zn)]) (fun _ kx_ => XS.iload X137.here hx rfl (hb hby d6_85) rfl kx_) ?_
      refine W.ldi X137 hx hZ e137 f133 0 rfl (by decide) (hb hby d6_87) (pc' := 88) rfl ?_
      refine W.sti X137 hx hZ e137 f135 k hk hk3 N121 hge.2.2.2.2.2.2.1 (hb hby d6_88) (pc' := 89) rfl (fun T138 h138 L138 X138 e138 W138 fw138 N138 => ?_)
      have Z138 : n0 ≤ h138.size := Nat.le_trans Z121 (Keep.of_wr W138).1
      have f139 := f122.wr W138
      have f140 := f123.other W138 (Or.inl ho.2.2.2.2.2.1)
      have f141 := f124.other W138 (Or.inl ho.2.2.2.2.2.1)
      have f142 := f125.other W138 (Or.inl ho.2.2.2.2.2.1)
      have f143 := f126.other W138 (Or.inl ho.2.2.2.2.2.1)
      have f144 := f127.other W138 (Or.inl ho.2.2.2.2.2.1)
      have f145 := f128.other W138 (Or.inl ho.2.2.2.2.2.1)
      have f146 := f129.other W138 (Or.inl ho.2.2.2.2.2.1)
      have f147 := f130.other W138 ho.2.2.2.2.2.2.2.2.2.2.2.1
      have f148 := f131.other W138 ho.2.2.2.2.2.2.2.2.2.2.2.2.2.2.2.2.1
      have f149 := f132.other W138 ho.2.2.2.2.2.2.2.2.2.2.2.2.2.2.2.2.2.2.2.2.1
      have f150 := f133.other W138 ho.2.2.2.2.2.2.2.2.2.2.2.2.2.2.2.2.2.2.2.2.2.2.2.1
      have f151 := f134.other W138 ho.2.2.2.2.2.2.2.2.2.2.2.2.2.2.2.2.2.2.2.2.2.2.2.2.2.1
      have f152 := fw121.other W138 (Ne.symm ho.2.2.2.2.2.2.2.2.2.2.2.2.2.2.2.2.2.2.2.2.2.2.2.2.2.2.2)
      have K138 : Keep h0 h138 [zf, zd, zn, zp] := K121.wr W138 (Or.inl (List.mem_of_getElem? (i := 2) rfl))
      refine W.s1 (mkF m 90 #[.val (.ref ao), .val (.int xs), .val (.double (FP.l2d (0 : Int64))), .second, .val (.double (FP.l2d (0 : Int64))), .second, .val (.int (-1 : Int32)), .val (.int (0 : Int32))] [(.ref ao)]) (fun _ kx_ => XS.aloadN X138.here hx rfl (hb hby d6_89) rfl rfl kx_) ?_
      refine W.getf X138 hx hZ hown (host := "") (Or.inl (hw _ (List.mem_of_getElem? (i := 22) rfl))) Via.refl e138 f143 (hb hby d6_90) (pc' := 93) rfl (fun T153 X153 e153 => ?_)
      refine W.s1 (mkF m 95 #[.val (.ref ao), .val (.int xs), .val (.double (FP.l2d (0 : Int64))), .second, .val (.double (FP.l2d (0 : Int64))), .second, .val (.int (-1 : Int32)), .val (.int (0 : Int32))] [(.int (0 : Int32)), (.ref zf)]) (fun _ kx_ => XS.iload X153.here hx rfl (hb hby d6_93) rfl kx_) ?_
      refine W.ldi X153 hx hZ e153 f150 0 rfl (by decide) (hb hby d6_95) (pc' := 96) rfl ?_
      refine W.s1 (mkF m 97 #[.val (.ref ao), .val (.int xs), .val (.double (FP.l2d (0 : Int64))), .second, .val (.double (FP.l2d (0 : Int64))), .second, .val (.int (-1 : Int32)), .val (.int (0 : Int32))] [(.int (-1 : Int32)), (.int (S.1 0))]) (fun _ kx_ => XS.iconst X153.here hx rfl (hb hby d6_96) kx_) ?_
      refine W.icmp X153 hx (hb hby d6_97) (pc' := 113) (pc'' := 100) (by decide) (by decide) rfl (fun (c97 : (S.1 0) = (-1 : Int32)) => ?_) (fun (c97 : ¬ (S.1 0) = (-1 : Int32)) => ?_)
      · refine W.s1 (mkF m 114 #[.val (.ref ao), .val (.int xs), .val (.double (FP.l2d (0 : Int64))), .second, .val (.double (FP.l2d (0 : Int64))), .second, .val (.int (-1 : Int32)), .val (.int (0 : Int32))] [(.ref ao)]) (fun _ kx_ => XS.aloadN X153.here hx rfl (hb hby d6_113) rfl rfl kx_) ?_
        refine W.getf X153 hx hZ hown (host := "") (Or.inl (hw _ (List.mem_of_getElem? (i := 22) rfl))) Via.refl e153 f143 (hb hby d6_114) (pc' := 117) rfl (fun T154 X154 e154 => ?_)
        refine W.s1 (mkF m 119 #[.val (.ref ao), .val (.int xs), .val (.double (FP.l2d (0 : Int64))), .second, .val (.double (FP.l2d (0 : Int64))), .second, .val (.int (-1 : Int32)), .val (.int (0 : Int32))] [(.int (0 : Int32)), (.ref zf)]) (fun _ kx_ => XS.iload X154.here hx rfl (hb hby d6_117) rfl kx_) ?_
        refine W.s1 (mkF m 120 #[.val (.ref ao), .val (.int xs), .val (.double (FP.l2d (0 : Int64))), .second, .val (.double (FP.l2d (0 : Int64))), .second, .val (.int (-1 : Int32)), .val (.int (0 : Int32))] [(.int xs), (.int (0 : Int32)), (.ref zf)]) (fun _ kx_ => XS.iloadN X154.here hx rfl (hb hby d6_119) rfl kx_) ?_
        refine W.sti X154 hx hZ e154 f150 0 rfl (by decide) N138 hge.2.2.2.2.1 (hb hby d6_120) (pc' := 121) rfl (fun T155 h155 L155 X155 e155 W155 fw155 N155 => ?_)
        have Z155 : n0 ≤ h155.size := Nat.le_trans Z138 (Keep.of_wr W155).1
        have f156 := f139.wr W155
        have f157 := f140.other W155 (Or.inl ho.2.2.2.1)
        have f158 := f141.other W155 (Or.inl ho.2.2.2.1)
        have f159 := f142.other W155 (Or.inl ho.2.2.2.1)
        have f160 := f143.other W155 (Or.inl ho.2.2.2.1)
        have f161 := f144.other W155 (Or.inl ho.2.2.2.1)
        have f162 := f145.other W155 (Or.inl ho.2.2.2.1)
        have f163 := f146.other W155 (Or.inl ho.2.2.2.1)
        have f164 := f147.other W155 ho.2.2.2.2.2.2.2.2.2.1
        have f165 := f148.other W155 ho.2.2.2.2.2.2.2.2.2.2.2.2.2.2.1
        have f166 := f149.other W155 ho.2.2.2.2.2.2.2.2.2.2.2.2.2.2.2.2.2.2.1
        have f167 := f151.other W155 (Ne.symm ho.2.2.2.2.2.2.2.2.2.2.2.2.2.2.2.2.2.2.2.2.2.2.1)
        have f168 := fw138.other W155 (Ne.symm ho.2.2.2.2.2.2.2.2.2.2.2.2.2.2.2.2.2.2.2.2.2.2.2.1)
        have f169 := f152.other W155 (Ne.symm ho.2.2.2.2.2.2.2.2.2.2.2.2.2.2.2.2.2.2.2.2.2.2.2.2.1)
        have K155 : Keep h0 h155 [zf, zd, zn, zp] := K138.wr W155 (Or.inl (List.mem_of_getElem? (i := 0) rfl))
        exact W.ret0 X155 hx hlk Bd.returns (hb hby d6_121) (by show Q6_0 Z ao xs zb zx zy zf zd zn zp S k h0 n0 _ T155.heap _; rw [e155]; refine ⟨rfl, N155, K155, ?_⟩; unfold own_add; rw [if_pos c97]; exact ⟨f156, f157, f158, f159, f160, f161, f162, f163, f164, f165, f166, fw155, f167, f168, f169⟩) (by decide) (by decide)
      · refine W.s1 (mkF m 101 #[.val (.ref ao), .val (.int xs), .val (.double (FP.l2d (0 : Int64))), .second, .val (.double (FP.l2d (0 : Int64))), .second, .val (.int (-1 : Int32)), .val (.int (0 : Int32))] [(.ref ao)]) (fun _ kx_ => XS.aloadN X153.here hx rfl (hb hby d6_100) rfl rfl kx_) ?_
        refine W.getf X153 hx hZ hown (host := "") (Or.inl (hw _ (List.mem_of_getElem? (i := 32) rfl))) Via.refl e153 f146 (hb hby d6_101) (pc' := 104) rfl (fun T170 X170 e170 => ?_)
        refine W.s1 (mkF m 105 #[.val (.ref ao), .val (.int xs), .val (.double (FP.l2d (0 : Int64))), .second, .val (.double (FP.l2d (0 : Int64))), .second, .val (.int (-1 : Int32)), .val (.int (0 : Int32))] [(.ref ao), (.ref zp)]) (fun _ kx_ => XS.aloadN X170.here hx rfl (hb hby d6_104) rfl rfl kx_) ?_
        refine W.getf X170 hx hZ hown (host := "") (Or.inl (hw _ (List.mem_of_getElem? (i := 22) rfl))) Via.refl e170 f143 (hb hby d6_105) (pc' := 108) rfl (fun T171 X171 e171 => ?_)
        refine W.s1 (mkF m 110 #[.val (.ref ao), .val (.int xs), .val (.double (FP.l2d (0 : Int64))), .second, .val (.double (FP.l2d (0 : Int64))), .second, .val (.int (-1 : Int32)), .val (.int (0 : Int32))] [(.int (0 : Int32)), (.ref zf), (.ref zp)]) (fun _ kx_ => XS.iload X171.here hx rfl (hb hby d6_108) rfl kx_) ?_
        refine W.ldi X171 hx hZ e171 f150 0 rfl (by decide) (hb hby d6_110) (pc' := 111) rfl ?_
        refine W.s1 (mkF m 112 #[.val (.ref ao), .val (.int xs), .val (.double (FP.l2d (0 : Int64))), .second, .val (.double (FP.l2d (0 : Int64))), .second, .val (.int (-1 : Int32)), .val (.int (0 : Int32))] [(.int xs), (.int (S.1 0)), (.ref zp)]) (fun _ kx_ => XS.iloadN X171.here hx rfl (hb hby d6_111) rfl kx_) ?_
        have hok := own_okE (v2.resolve_left c97)
        refine W.sti X171 hx hZ e171 f152 (own_ix (S.1 0)) hok.1 hok.2 N138 hge.2.2.2.2.2.2.2 (hb hby d6_112) (pc' := 113) rfl (fun T172 h172 L172 X172 e172 W172 fw172 N172 => ?_)
        have Z172 : n0 ≤ h172.size := Nat.le_trans Z138 (Keep.of_wr W172).1
        have f173 := f139.wr W172
        have f174 := f140.other W172 (Or.inl ho.2.2.2.2.2.2.1)
        have f175 := f141.other W172 (Or.inl ho.2.2.2.2.2.2.1)
        have f176 := f142.other W172 (Or.inl ho.2.2.2.2.2.2.1)
        have f177 := f143.other W172 (Or.inl ho.2.2.2.2.2.2.1)
        have f178 := f144.other W172 (Or.inl ho.2.2.2.2.2.2.1)
        have f179 := f145.other W172 (Or.inl ho.2.2.2.2.2.2.1)
        have f180 := f146.other W172 (Or.inl ho.2.2.2.2.2.2.1)
        have f181 := f147.other W172 ho.2.2.2.2.2.2.2.2.2.2.2.2.1
        have f182 := f148.other W172 ho.2.2.2.2.2.2.2.2.2.2.2.2.2.2.2.2.2.1
        have f183 := f149.other W172 ho.2.2.2.2.2.2.2.2.2.2.2.2.2.2.2.2.2.2.2.2.2.1
        have f184 := f150.other W172 ho.2.2.2.2.2.2.2.2.2.2.2.2.2.2.2.2.2.2.2.2.2.2.2.2.1
        have f185 := f151.other W172 ho.2.2.2.2.2.2.2.2.2.2.2.2.2.2.2.2.2.2.2.2.2.2.2.2.2.2.1
        have f186 := fw138.other W172 ho.2.2.2.2.2.2.2.2.2.2.2.2.2.2.2.2.2.2.2.2.2.2.2.2.2.2.2
        have K172 : Keep h0 h172 [zf, zd, zn, zp] := K138.wr W172 (Or.inl (List.mem_of_getElem? (i := 3) rfl))
        refine W.s1 (mkF m 114 #[.val (.ref ao), .val (.int xs), .val (.double (FP.l2d (0 : Int64))), .second, .val (.double (FP.l2d (0 : Int64))), .second, .val (.int (-1 : Int32)), .val (.int (0 : Int32))] [(.ref ao)]) (fun _ kx_ => XS.aloadN X172.here hx rfl (hb hby d6_113) rfl rfl kx_) ?_
        refine W.getf X172 hx hZ hown (host := "") (Or.inl (hw _ (List.mem_of_getElem? (i := 22) rfl))) Via.refl e172 f177 (hb hby d6_114) (pc' := 117) rfl (fun T187 X187 e187 => ?_)
        refine W.s1 (mkF m 119 #[.val (.ref ao), .val (.int xs), .val (.double (FP.l2d (0 : Int64))), .second, .val (.double (FP.l2d (0 : Int64))), .second, .val (.int (-1 : Int32)), .val (.int (0 : Int32))] [(.int (0 : Int32)), (.ref zf)]) (fun _ kx_ => XS.iload X187.here hx rfl (hb hby d6_117) rfl kx_) ?_
        refine W.s1 (mkF m 120 #[.val (.ref ao), .val (.int xs), .val (.double (FP.l2d (0 : Int64))), .second, .val (.double (FP.l2d (0 : Int64))), .second, .val (.int (-1 : Int32)), .val (.int (0 : Int32))] [(.int xs), (.int (0 : Int32)), (.ref zf)]) (fun _ kx_ => XS.iloadN X187.here hx rfl (hb hby d6_119) rfl kx_) ?_
        refine W.sti X187 hx hZ e187 f184 0 rfl (by decide) N172 hge.2.2.2.2.1 (hb hby d6_120) (pc' := 121) rfl (fun T188 h188 L188 X188 e188 W188 fw188 N188 => ?_)
        have Z188 : n0 ≤ h188.size := Nat.le_trans Z172 (Keep.of_wr W188).1
        have f189 := f173.wr W188
        have f190 := f174.other W188 (Or.inl ho.2.2.2.1)
        have f191 := f175.other W188 (Or.inl ho.2.2.2.1)
        have f192 := f176.other W188 (Or.inl ho.2.2.2.1)
        have f193 := f177.other W188 (Or.inl ho.2.2.2.1)
        have f194 := f178.other W188 (Or.inl ho.2.2.2.1)
        have f195 := f179.other W188 (Or.inl ho.2.2.2.1)
        have f196 := f180.other W188 (Or.inl ho.2.2.2.1)
        have f197 := f181.other W188 ho.2.2.2.2.2.2.2.2.2.1
        have f198 := f182.other W188 ho.2.2.2.2.2.2.2.2.2.2.2.2.2.2.1
        have f199 := f183.other W188 ho.2.2.2.2.2.2.2.2.2.2.2.2.2.2.2.2.2.2.1
        have f200 := f185.other W188 (Ne.symm ho.2.2.2.2.2.2.2.2.2.2.2.2.2.2.2.2.2.2.2.2.2.2.1)
        have f201 := f186.other W188 (Ne.symm ho.2.2.2.2.2.2.2.2.2.2.2.2.2.2.2.2.2.2.2.2.2.2.2.1)
        have f202 := fw172.other W188 (Ne.symm ho.2.2.2.2.2.2.2.2.2.2.2.2.2.2.2.2.2.2.2.2.2.2.2.2.1)
        have K188 : Keep h0 h188 [zf, zd, zn, zp] := K172.wr W188 (Or.inl (List.mem_of_getElem? (i := 0) rfl))
        exact W.ret0 X188 hx hlk Bd.returns (hb hby d6_121) (by show Q6_0 Z ao xs zb zx zy zf zd zn zp S k h0 n0 _ T188.heap _; rw [e188]; refine ⟨rfl, N188, K188, ?_⟩; unfold own_add; rw [if_neg c97]; exact ⟨f189, f190, f191, f192, f193, f194, f195, f196, f197, f198, f199, fw188, f200, f201, f202⟩) (by decide) (by decide)
    · exact absurd c44 (by decide)
  · exact absurd v1 c7
theorem ef_6_1 (m : MethodId) (x0 : Addr) (x1 : Int32) (x2 : UInt64) (x3 : UInt64) (x4 : Int32) : entryFrame m #[(.ref x0), (.int x1), (.double x2), (.double x3), (.int x4)] 8 = mkF m 0 #[.val (.ref x0), .val (.int x1), .val (.double x2), .second, .val (.double x3), .second, .val (.int x4), .unset] [] := by first | (simp [entryFrame, mkF, argsToLocals, Value.category]; done) | rfl
def Q6_1 (Z : State) (ao : Addr) (xs : Int32) (zb : Addr) (zx : Addr) (zy : Addr) (zf : Addr) (zd : Addr) (zn : Addr) (zp : Addr) (S : own_S) (k : Nat) (h0 : Heap) (n0 : Nat) (v : Option Value) (h : Heap) (L : List Loc) : Prop := v = none ∧ Fr n0 L ∧ Keep h0 h [zf, zd, zn, zp] ∧ own_PC Z h ao zb zx zy zf zd zn zp (own_add 1 1 xs k S)
set_option maxRecDepth 65536 in
set_option maxHeartbeats 40000000 in
theorem rm6_1 (l : Launch) (Z : State) (a0 : Array Value) (hw : ∀ d ∈ tables_1, d.before a0 Z = true) (ws : List Jvm.Cond) (ao : Addr) (xs : Int32) (zb : Addr) (zx : Addr) (zy : Addr) (zf : Addr) (zd : Addr) (zn : Addr) (zp : Addr) (S : own_S) (k : Nat) (h0 : Heap) (n0 : Nat) (Z0 : n0 ≤ h0.size) (H0 : own_PC Z h0 ao zb zx zy zf zd zn zp S) (ho : own_ord ao zb zx zy zf zd zn zp) (hge : own_ge n0 ao zb zx zy zf zd zn zp) (hk : xs.toInt = k) (hk3 : k < 3) (hv : own_addV 1 k S = true) :
    MetFree l (⟨"com/example/stummel/stummel/geometry/PendingCrossings", "add", "(IDDI)V"⟩ : MethodName) (head1 (Jvm.Cond.code (⟨"com/example/stummel/stummel/geometry/PendingCrossings", "add", "(IDDI)V"⟩ : MethodName) prog_7_method_2_code 8 none :: ws) ({ frames := 2, cells := 0, slots := 0, locals := 41 } : Room)) (fun a U => a = #[(.ref ao), (.int xs), (.double (FP.l2d (1 : Int64))), (.double (FP.l2d (0 : Int64))), (.int (-1 : Int32))] ∧ Z.Warmed39 U.vm ∧ U.heap = h0) (fun _ _ _ _ _ => True) (fun _ U o U' => ∃ v L, o = .returned v ∧ Q6_1 Z ao xs zb zx zy zf zd zn zp S k h0 n0 v U'.heap L ∧ FrameEnd U o U' L ({ frames := 2, cells := 0, slots := 0, locals := 41 } : Room).cells ({ frames := 2, cells := 0, slots := 0, locals := 41 } : Room).slots) := by
  refine MetFree.of_bodySF (plainFor_of_name pn_2) hisR ?_
  intro p e s m args below meth c s₁ Bd hml0 hP hK
  obtain ⟨rfl, hZ, hh⟩ := hP
  have hx := Bd.exec
  have hby := Bd.bytes
  have hml : c.maxLocals = 8 := hml0
  have hown : s.vm.findClass "com/example/stummel/stummel/geometry/PendingCrossings" = some m.cls := findClass_of_methodNamed Bd.named
  have hnm := (name_of_methodNamed Bd.named Bd.method).1
  have hlk : meth.locks = false := BodyLoose.notSynchronized Bd
  have X0 : Stand p l e ({ frames := 2, cells := 0, slots := 0, locals := 41 } : Room) s m #[(.ref ao), (.int xs), (.double (FP.l2d (1 : Int64))), (.double (FP.l2d (0 : Int64))), (.int (-1 : Int32))] below meth c s₁ [] 0 0 := Stand.of_body Bd
  have e0 : s₁.heap = h0 := by rw [← hh, Bd.state]; rfl
  have N0 := Fr.nil n0
  show W.Gl p e below s (Q6_1 Z ao xs zb zx zy zf zd zn zp S k h0 n0) ({ frames := 2, cells := 0, slots := 0, locals := 41 } : Room).cells ({ frames := 2, cells := 0, slots := 0, locals := 41 } : Room).slots s₁ (entryFrame m #[(.ref ao), (.int xs), (.double (FP.l2d (1 : Int64))), (.double (FP.l2d (0 : Int64))), (.int (-1 : Int32))] 8)
  refine W.cast (ef_6_1 m ao xs (FP.l2d (1 : Int64)) (FP.l2d (0 : Int64)) (-1 : Int32)) ?_
  have K0 : Keep h0 h0 [zf, zd, zn, zp] := Keep.refl h0 [zf, zd, zn, zp]
  have H1 := H0
  obtain ⟨v1, v2⟩ := own_addA hv
  obtain ⟨ue, ur0, ur1, ur2, ur3, ur4, ur5, ur6, ua0, ua1, ua2, ua3, ua4, ua5, ua6⟩ := H0
  refine W.s1 (mkF m 1 #[.val (.ref ao), .val (.int xs), .val (.double (FP.l2d (1 : Int64))), .second, .val (.double (FP.l2d (0 : Int64))), .second, .val (.int (-1 : Int32)), .unset] [(.ref ao)]) (fun _ kx_ => XS.aloadN X0.here hx rfl (hb hby d6_0) rfl rfl kx_) ?_
  refine W.getf X0 hx hZ hown (host := "") (Or.inl (hw _ (List.mem_of_getElem? (i := 28) rfl))) Via.refl e0 ur4 (hb hby d6_1) (pc' := 4) rfl (fun T101 X101 e101 => ?_)
  refine W.s1 (mkF m 5 #[.val (.ref ao), .val (.int xs), .val (.double (FP.l2d (1 : Int64))), .second, .val (.double (FP.l2d (0 : Int64))), .second, .val (.int (-1 : Int32)), .unset] [(.int xs), (.ref zd)]) (fun _ kx_ => XS.iloadN X101.here hx rfl (hb hby d6_4) rfl kx_) ?_
  refine W.ldi X101 hx hZ e101 ua4 k hk hk3 (hb hby d6_5) (pc' := 6) rfl ?_
  refine W.s1 (mkF m 7 #[.val (.ref ao), .val (.int xs), .val (.double (FP.l2d (1 : Int64))), .second, .val (.double (FP.l2d (0 : Int64))), .second, .val (.int (-1 : Int32)), .unset] [(.int (-1 : Int32)), (.int (S.2.1 k))]) (fun _ kx_ => XS.iconst X101.here hx rfl (hb hby d6_6) kx_) ?_
  refine W.icmp X101 hx (hb hby d6_7) (pc' := 24) (pc'' := 10) (by decide) (by decide) rfl (fun (c7 : (S.2.1 k) = (-1 : Int32)) => ?_) (fun (c7 : ¬ (S.2.1 k) = (-1 : Int32)) => ?_)
  · refine W.s1 (mkF m 25 #[.val (.ref ao), .val (.int xs), .val (.double (FP.l2d (1 : Int64))), .second, .val (.double (FP.l2d (0 : Int64))), .second, .val (.int (-1 : Int32)), .unset] [(.ref ao)]) (fun _ kx_ => XS.aloadN X101.here hx rfl (hb hby d6_24) rfl rfl kx_) ?_
    refine W.s1 (mkF m 26 #[.val (.ref ao), .val (.int xs), .val (.double (FP.l2d (1 : Int64))), .second, .val (.double (FP.l2d (0 : Int64))), .second, .val (.int (-1 : Int32)), .unset] [(.double (FP.l2d (1 : Int64))), (.ref ao)]) (fun _ kx_ => XS.dloadN X101.here hx rfl (hb hby d6_25) rfl kx_) ?_
    refine W.s1 (mkF m 28 #[.val (.ref ao), .val (.int xs), .val (.double (FP.l2d (1 : Int64))), .second, .val (.double (FP.l2d (0 : Int64))), .second, .val (.int (-1 : Int32)), .unset] [(.double (FP.l2d (0 : Int64))), (.double (FP.l2d (1 : Int64))), (.ref ao)]) (fun _ kx_ => XS.dload X101.here hx rfl (hb hby d6_26) rfl kx_) ?_
    refine W.s1 (mkF m 30 #[.val (.ref ao), .val (.int xs), .val (.double (FP.l2d (1 : Int64))), .second, .val (.double (FP.l2d (0 : Int64))), .second, .val (.int (-1 : Int32)), .unset] [(.int (-1 : Int32)), (.double (FP.l2d (0 : Int64))), (.double (FP.l2d (1 : Int64))), (.ref ao)]) (fun _ kx_ => XS.iload X101.here hx rfl (hb hby d6_28) rfl kx_) ?_
    refine W.s1 (mkF m 31 #[.val (.ref ao), .val (.int xs), .val (.double (FP.l2d (1 : Int64))), .second, .val (.double (FP.l2d (0 : Int64))), .second, .val (.int (-1 : Int32)), .unset] [(.int (1 : Int32)), (.int (-1 : Int32)), (.double (FP.l2d (0 : Int64))), (.double (FP.l2d (1 : Int64))), (.ref ao)]) (fun _ kx_ => XS.iconst X101.here hx rfl (hb hby d6_30) kx_) ?_
    refine W.s1 (mkF m 32 #[.val (.ref ao), .val (.int xs), .val (.double (FP.l2d (1 : Int64))), .second, .val (.double (FP.l2d (0 : Int64))), .second, .val (.int (-1 : Int32)), .unset] [(.int (0 : Int32)), (.double (FP.l2d (0 : Int64))), (.double (FP.l2d (1 : Int64))), (.ref ao)]) (fun _ kx_ => XS.iadd X101.here hx rfl (hb hby d6_31) rfl kx_) ?_
    obtain ⟨cq102, q102, q102'⟩ := ue.cell
    obtain ⟨_, _, ⟨T102, L102, k102, n102⟩, -, X102, ⟨Lc102, hQ102, l102, y102, z102⟩, st102⟩ := X101.privateBack hx (y := (⟨"com/example/stummel/stummel/geometry/PendingCrossings", "firstNotBefore", "(DDI)I"⟩ : MethodName)) hown (mvT hZ (hw _ (List.mem_of_getElem? (i := 42) rfl))) (mvT hZ (hw _ (List.mem_of_getElem? (i := 43) rfl))) (W.privSel hZ (hw _ (List.mem_of_getElem? (i := 7) rfl)) (hw _ (List.mem_of_getElem? (i := 44) rfl)) (hw _ (List.mem_of_getElem? (i := 43) rfl)) rfl (by decide)) (Cond.privateMethod_at (mvP hZ (hw _ (List.mem_of_getElem? (i := 44) rfl)) (args := #[]))) (mvT hZ (hw _ (List.mem_of_getElem? (i := 45) rfl))) (by decide) (backOf (W := 0) (rm7_1 l Z a0 hw [] ao zb zx zy zf zd zn zp S h0 n0 Z0 H1) hZ (hw _ (List.mem_of_getElem? (i := 45) rfl)) (hw _ (List.mem_of_getElem? (i := 8) rfl)) (by decide) (by decide)) (g := (mkF m 32 #[.val (.ref ao), .val (.int xs), .val (.double (FP.l2d (1 : Int64))), .second, .val (.double (FP.l2d (0 : Int64))), .second, .val (.int (-1 : Int32)), .unset] [(.int (0 : Int32)), (.double (FP.l2d (0 : Int64))), (.double (FP.l2d (1 : Int64))), (.ref ao)])) rfl (by rw [hml]; rfl) (Steps.refl _) (a := ao) (by rw [e101]; exact q102) q102' (argsL := [(.double (FP.l2d (1 : Int64))), (.double (FP.l2d (0 : Int64))), (.int (0 : Int32))]) (rest := []) (lenOf pd_2 rfl) rfl (by show 2 * 0 + _ ≤ _; exact Nat.le_of_eq rfl) (hb hby d6_32) (fun _ _ => ⟨rfl, e101, (by decide : 0 + 0 ≤ _), (by decide : 0 + 0 ≤ _)⟩)
    dsimp only [Pt.U, Pt.locs, Pt.cells, Pt.slots] at X102 l102 y102 z102 st102 hQ102
    subst l102 y102 z102
    obtain ⟨rfl, Nq102, eq102⟩ := hQ102
    have N102 := Fr.app N0 Nq102
    refine W.s3 (mkF m 35 #[.val (.ref ao), .val (.int xs), .val (.double (FP.l2d (1 : Int64))), .second, .val (.double (FP.l2d (0 : Int64))), .second, .val (.int (-1 : Int32)), .unset] [(.int (1 : Int32))]) st102 ?_
    refine W.s1 (mkF m 37 #[.val (.ref ao), .val (.int xs), .val (.double (FP.l2d (1 : Int64))), .second, .val (.double (FP.l2d (0 : Int64))), .second, .val (.int (-1 : Int32)), .val (.int (1 : Int32))] []) (fun _ kx_ => XS.istore X102.here hx rfl (hb hby d6_35) rfl (l' := #[.val (.ref ao), .val (.int xs), .val (.double (FP.l2d (1 : Int64))), .second, .val (.double (FP.l2d (0 : Int64))), .second, .val (.int (-1 : Int32)), .val (.int (1 : Int32))]) rfl kx_) ?_
    refine W.s1 (mkF m 39 #[.val (.ref ao), .val (.int xs), .val (.double (FP.l2d (1 : Int64))), .second, .val (.double (FP.l2d (0 : Int64))), .second, .val (.int (-1 : Int32)), .val (.int (1 : Int32))] [(.int (1 : Int32))]) (fun _ kx_ => XS.iload X102.here hx rfl (hb hby d6_37) rfl kx_) ?_
    refine W.s1 (mkF m 40 #[.val (.ref ao), .val (.int xs), .val (.double (FP.l2d (1 : Int64))), .second, .val (.double (FP.l2d (0 : Int64))), .second, .val (.int (-1 : Int32)), .val (.int (1 : Int32))] [(.ref ao), (.int (1 : Int32))]) (fun _ kx_ => XS.aloadN X102.here hx rfl (hb hby d6_39) rfl rfl kx_) ?_
    refine W.getf X102 hx hZ hown (host := "") (Or.inl (hw _ (List.mem_of_getElem? (i := 16) rfl))) Via.refl eq102 ur0 (hb hby d6_40) (pc' := 43) rfl (fun T103 X103 e103 => ?_)
    refine W.alen X103 hx hZ e103 ua0 (z := (2 : Int32)) rfl (hb hby d6_43) (pc' := 44) rfl ?_
    refine W.icmp X103 hx (hb hby d6_44) (pc' := 61) (pc'' := 47) (by decide) (by decide) rfl (fun (c44 : ¬ (1 : Int32) = (2 : Int32)) => ?_) (fun (c44 : (1 : Int32) = (2 : Int32)) => ?_)
    · refine W.s1 (mkF m 62 #[.val (.ref ao), .val (.int xs), .val (.double (FP.l2d (1 : Int64))), .second, .val (.double (FP.l2d (0 : Int64))), .second, .val (.int (-1 : Int32)), .val (.int (1 : Int32))] [(.ref ao)]) (fun _ kx_ => XS.aloadN X103.here hx rfl (hb hby d6_61) rfl rfl kx_) ?_
      refine W.getf X103 hx hZ hown (host := "") (Or.inl (hw _ (List.mem_of_getElem? (i := 28) rfl))) Via.refl e103 ur4 (hb hby d6_62) (pc' := 65) rfl (fun T104 X104 e104 => ?_)
      refine W.s1 (mkF m 66 #[.val (.ref ao), .val (.int xs), .val (.double (FP.l2d (1 : Int64))), .second, .val (.double (FP.l2d (0 : Int64))), .second, .val (.int (-1 : Int32)), .val (.int (1 : Int32))] [(.int xs), (.ref zd)]) (fun _ kx_ => XS.iloadN X104.here hx rfl (hb hby d6_65) rfl kx_) ?_
      refine W.s1 (mkF m 68 #[.val (.ref ao), .val (.int xs), .val (.double (FP.l2d (1 : Int64))), .second, .val (.double (FP.l2d (0 : Int64))), .second, .val (.int (-1 : Int32)), .val (.int (1 : Int32))] [(.int (1 : Int32)), (.int xs), (.ref zd)]) (fun _ kx_ => XS.iload X104.here hx rfl (hb hby d6_66) rfl kx_) ?_
      refine W.sti X104 hx hZ e104 ua4 k hk hk3 N102 hge.2.2.2.2.2.1 (hb hby d6_68) (pc' := 69) rfl (fun T105 h105 L105 X105 e105 W105 fw105 N105 => ?_)
      have Z105 : n0 ≤ h105.size := Nat.le_trans Z0 (Keep.of_wr W105).1
      have f106 := ue.wr W105
      have f107 := ur0.other W105 (Or.inl ho.2.2.2.2.1)
      have f108 := ur1.other W105 (Or.inl ho.2.2.2.2.1)
      have f109 := ur2.other W105 (Or.inl ho.2.2.2.2.1)
      have f110 := ur3.other W105 (Or.inl ho.2.2.2.2.1)
      have f111 := ur4.other W105 (Or.inl ho.2.2.2.2.1)
      have f112 := ur5.other W105 (Or.inl ho.2.2.2.2.1)
      have f113 := ur6.other W105 (Or.inl ho.2.2.2.2.1)
      have f114 := ua0.other W105 ho.2.2.2.2.2.2.2.2.2.2.1
      have f115 := ua1.other W105 ho.2.2.2.2.2.2.2.2.2.2.2.2.2.2.2.1
      have f116 := ua2.other W105 ho.2.2.2.2.2.2.2.2.2.2.2.2.2.2.2.2.2.2.2.1
      have f117 := ua3.other W105 ho.2.2.2.2.2.2.2.2.2.2.2.2.2.2.2.2.2.2.2.2.2.2.1
      have f118 := ua5.other W105 (Ne.symm ho.2.2.2.2.2.2.2.2.2.2.2.2.2.2.2.2.2.2.2.2.2.2.2.2.2.1)
      have f119 := ua6.other W105 (Ne.symm ho.2.2.2.2.2.2.2.2.2.2.2.2.2.2.2.2.2.2.2.2.2.2.2.2.2.2.1)
      have K105 : Keep h0 h105 [zf, zd, zn, zp] := K0.wr W105 (Or.inl (List.mem_of_getElem? (i := 1) rfl))
      refine W.s1 (mkF m 70 #[.val (.ref ao), .val (.int xs), .val (.double (FP.l2d (1 : Int64))), .second, .val (.double (FP.l2d (0 : Int64))), .second, .val (.int (-1 : Int32)), .val (.int (1 : Int32))] [(.ref ao)]) (fun _ kx_ => XS.aloadN X105.here hx rfl (hb hby d6_69) rfl rfl kx_) ?_
      refine W.getf X105 hx hZ hown (host := "") (Or.inl (hw _ (List.mem_of_getElem? (i := 32) rfl))) Via.refl e105 f113 (hb hby d6_70) (pc' := 73) rfl (fun T120 X120 e120 => ?_)
      refine W.s1 (mkF m 74 #[.val (.ref ao), .val (.int xs), .val (.double (FP.l2d (1 : Int64))), .second, .val (.double (FP.l2d (0 : Int64))), .second, .val (.int (-1 : Int32)), .val (.int (1 : Int32))] [(.int xs), (.ref zp)]) (fun _ kx_ => XS.iloadN X120.here hx rfl (hb hby d6_73) rfl kx_) ?_
      refine W.s1 (mkF m 75 #[.val (.ref ao), .val (.int xs), .val (.double (FP.l2d (1 : Int64))), .second, .val (.double (FP.l2d (0 : Int64))), .second, .val (.int (-1 : Int32)), .val (.int (1 : Int32))] [(.int (-1 : Int32)), (.int xs), (.ref zp)]) (fun _ kx_ => XS.iconst X120.here hx rfl (hb hby d6_74) kx_) ?_
      refine W.sti X120 hx hZ e120 f119 k hk hk3 N105 hge.2.2.2.2.2.2.2 (hb hby d6_75) (pc' := 76) rfl (fun T121 h121 L121 X121 e121 W121 fw121 N121 => ?_)
      have Z121 : n0 ≤ h121.size := Nat.le_trans Z105 (Keep.of_wr W121).1
      have f122 := f106.wr W121
      have f123 := f107.other W121 (Or.inl ho.2.2.2.2.2.2.1)
      have f124 := f108.other W121 (Or.inl ho.2.2.2.2.2.2.1)
      have f125 := f109.other W121 (Or.inl ho.2.2.2.2.2.2.1)
      have f126 := f110.other W121 (Or.inl ho.2.2.2.2.2.2.1)
      have f127 := f111.other W121 (Or.inl ho.2.2.2.2.2.2.1)
      have f128 := f112.other W121 (Or.inl ho.2.2.2.2.2.2.1)
      have f129 := f113.other W121 (Or.inl ho.2.2.2.2.2.2.1)
      have f130 := f114.other W121 ho.2.2.2.2.2.2.2.2.2.2.2.2.1
      have f131 := f115.other W121 ho.2.2.2.2.2.2.2.2.2.2.2.2.2.2.2.2.2.1
      have f132 := f116.other W121 ho.2.2.2.2.2.2.2.2.2.2.2.2.2.2.2.2.2.2.2.2.2.1
      have f133 := f117.other W121 ho.2.2.2.2.2.2.2.2.2.2.2.2.2.2.2.2.2.2.2.2.2.2.2.2.1
      have f134 := fw105.other W121 ho.2.2.2.2.2.2.2.2.2.2.2.2.2.2.2.2.2.2.2.2.2.2.2.2.2.2.1
      have f135 := f118.other W121 ho.2.2.2.2.2.2.2.2.2.2.2.2.2.2.2.2.2.2.2.2.2.2.2.2.2.2.2
      have K121 : Keep h0 h121 [zf, zd, zn, zp] := K105.wr W121 (Or.inl (List.mem_of_getElem? (i := 3) rfl))
      refine W.s1 (mkF m 77 #[.val (.ref ao), .val (.int xs), .val (.double (FP.l2d (1 : Int64))), .second, .val (.double (FP.l2d (0 : Int64))), .second, .val (.int (-1 : Int32)), .val (.int (1 : Int32))] [(.ref ao)]) (fun _ kx_ => XS.aloadN X121.here hx rfl (hb hby d6_76) rfl rfl kx_) ?_
      refine W.getf X121 hx hZ hown (host := "") (Or.inl (hw _ (List.mem_of_getElem? (i := 30) rfl))) Via.refl e121 f128 (hb hby d6_77) (pc' := 80) rfl (fun T136 X136 e136 => ?_)
      refine W.s1 (mkF m 81 #[.val (.ref ao), .val (.int xs), .val (.double (FP.l2d (1 : Int64))), .second, .val (.double (FP.l2d (0 : Int64))), .second, .val (.int (-1 : Int32)), .val (.int (1 : Int32))] [(.int xs), (.ref zn)]) (fun _ kx_ => XS.iloadN X136.here hx rfl (hb hby d6_80) rfl kx_) ?_
      refine W.s1 (mkF m 82 #[.val (.ref ao), .val (.int xs), .val (.double (FP.l2d (1 : Int64))), .second, .val (.double (FP.l2d (0 : Int64))), .second, .val (.int (-1 : Int32)), .val (.int (1 : Int32))] [(.ref ao), (.int xs), (.ref zn)]) (fun _ kx_ => XS.aloadN X136.here hx rfl (hb hby d6_81) rfl rfl kx_) ?_
      refine W.getf X136 hx hZ hown (host := "") (Or.inl (hw _ (List.mem_of_getElem? (i := 22) rfl))) Via.refl e136 f126 (hb hby d6_82) (pc' := 85) rfl (fun T137 X137 e137 => ?_)
      refine W.s1 (mkF m 87 #[.val (.ref ao), .val (.int xs), .val (.double (FP.l2d (1 : Int64))), .second, .val (.double (FP.l2d (0 : Int64))), .second, .val (.int (-1 : Int32)), .val (.int (1 : Int32))] [(.int (1 : Int32)), (.ref zf), (.int xs), (.ref zn)]) (fun _ kx_ => XS.iload X137.here hx rfl (hb hby d6_85) rfl kx_) ?_
      refine W.ldi X137 hx hZ e137 f133 1 rfl (by decide) (hb hby d6_87) (pc' := 88) rfl ?_
      refine W.sti X137 hx hZ e137 f135 k hk hk3 N121 hge.2.2.2.2.2.2.1 (hb hby d6_88) (pc' := 89) rfl (fun T138 h138 L138 X138 e138 W138 fw138 N138 => ?_)
      have Z138 : n0 ≤ h138.size := Nat.le_trans Z121 (Keep.of_wr W138).1
      have f139 := f122.wr W138
      have f140 := f123.other W138 (Or.inl ho.2.2.2.2.2.1)
      have f141 := f124.other W138 (Or.inl ho.2.2.2.2.2.1)
      have f142 := f125.other W138 (Or.inl ho.2.2.2.2.2.1)
      have f143 := f126.other W138 (Or.inl ho.2.2.2.2.2.1)
      have f144 := f127.other W138 (Or.inl ho.2.2.2.2.2.1)
      have f145 := f128.other W138 (Or.inl ho.2.2.2.2.2.1)
      have f146 := f129.other W138 (Or.inl ho.2.2.2.2.2.1)
      have f147 := f130.other W138 ho.2.2.2.2.2.2.2.2.2.2.2.1
      have f148 := f131.other W138 ho.2.2.2.2.2.2.2.2.2.2.2.2.2.2.2.2.1
      have f149 := f132.other W138 ho.2.2.2.2.2.2.2.2.2.2.2.2.2.2.2.2.2.2.2.2.1
      have f150 := f133.other W138 ho.2.2.2.2.2.2.2.2.2.2.2.2.2.2.2.2.2.2.2.2.2.2.2.1
      have f151 := f134.other W138 ho.2.2.2.2.2.2.2.2.2.2.2.2.2.2.2.2.2.2.2.2.2.2.2.2.2.1
      have f152 := fw121.other W138 (Ne.symm ho.2.2.2.2.2.2.2.2.2.2.2.2.2.2.2.2.2.2.2.2.2.2.2.2.2.2.2)
      have K138 : Keep h0 h138 [zf, zd, zn, zp] := K121.wr W138 (Or.inl (List.mem_of_getElem? (i := 2) rfl))
      refine W.s1 (mkF m 90 #[.val (.ref ao), .val (.int xs), .val (.double (FP.l2d (1 : Int64))), .second, .val (.double (FP.l2d (0 : Int64))), .second, .val (.int (-1 : Int32)), .val (.int (1 : Int32))] [(.ref ao)]) (fun _ kx_ => XS.aloadN X138.here hx rfl (hb hby d6_89) rfl rfl kx_) ?_
      refine W.getf X138 hx hZ hown (host := "") (Or.inl (hw _ (List.mem_of_getElem? (i := 22) rfl))) Via.refl e138 f143 (hb hby d6_90) (pc' := 93) rfl (fun T153 X153 e153 => ?_)
      refine W.s1 (mkF m 95 #[.val (.ref ao), .val (.int xs), .val (.double (FP.l2d (1 : Int64))), .second, .val (.double (FP.l2d (0 : Int64))), .second, .val (.int (-1 : Int32)), .val (.int (1 : Int32))] [(.int (1 : Int32)), (.ref zf)]) (fun _ kx_ => XS.iload X153.here hx rfl (hb hby d6_93) rfl kx_) ?_
      refine W.ldi X153 hx hZ e153 f150 1 rfl (by decide) (hb hby d6_95) (pc' := 96) rfl ?_
      refine W.s1 (mkF m 97 #[.val (.ref ao), .val (.int xs), .val (.double (FP.l2d (1 : Int64))), .second, .val (.double (FP.l2d (0 : Int64))), .second, .val (.int (-1 : Int32)), .val (.int (1 : Int32))] [(.int (-1 : Int32)), (.int (S.1 1))]) (fun _ kx_ => XS.iconst X153.here hx rfl (hb hby d6_96) kx_) ?_
      refine W.icmp X153 hx (hb hby d6_97) (pc' := 113) (pc'' := 100) (by decide) (by decide) rfl (fun (c97 : (S.1 1) = (-1 : Int32)) => ?_) (fun (c97 : ¬ (S.1 1) = (-1 : Int32)) => ?_)
      · refine W.s1 (mkF m 114 #[.val (.ref ao), .val (.int xs), .val (.double (FP.l2d (1 : Int64))), .second, .val (.double (FP.l2d (0 : Int64))), .second, .val (.int (-1 : Int32)), .val (.int (1 : Int32))] [(.ref ao)]) (fun _ kx_ => XS.aloadN X153.here hx rfl (hb hby d6_113) rfl rfl kx_) ?_
        refine W.getf X153 hx hZ hown (host := "") (Or.inl (hw _ (List.mem_of_getElem? (i := 22) rfl))) Via.refl e153 f143 (hb hby d6_114) (pc' := 117) rfl (fun T154 X154 e154 => ?_)
        refine W.s1 (mkF m 119 #[.val (.ref ao), .val (.int xs), .val (.double (FP.l2d (1 : Int64))), .second, .val (.double (FP.l2d (0 : Int64))), .second, .val (.int (-1 : Int32)), .val (.int (1 : Int32))] [(.int (1 : Int32)), (.ref zf)]) (fun _ kx_ => XS.iload X154.here hx rfl (hb hby d6_117) rfl kx_) ?_
        refine W.s1 (mkF m 120 #[.val (.ref ao), .val (.int xs), .val (.double (FP.l2d (1 : Int64))), .second, .val (.double (FP.l2d (0 : Int64))), .second, .val (.int (-1 : Int32)), .val (.int (1 : Int32))] [(.int xs), (.int (1 : Int32)), (.ref zf)]) (fun _ kx_ => XS.iloadN X154.here hx rfl (hb hby d6_119) rfl kx_) ?_
        refine W.sti X154 hx hZ e154 f150 1 rfl (by decide) N138 hge.2.2.2.2.1 (hb hby d6_120) (pc' := 121) rfl (fun T155 h155 L155 X155 e155 W155 fw155 N155 => ?_)
        have Z155 : n0 ≤ h155.size := Nat.le_trans Z138 (Keep.of_wr W155).1
        have f156 := f139.wr W155
        have f157 := f140.other W155 (Or.inl ho.2.2.2.1)
        have f158 := f141.other W155 (Or.inl ho.2.2.2.1)
        have f159 := f142.other W155 (Or.inl ho.2.2.2.1)
        have f160 := f143.other W155 (Or.inl ho.2.2.2.1)
        have f161 := f144.other W155 (Or.inl ho.2.2.2.1)
        have f162 := f145.other W155 (Or.inl ho.2.2.2.1)
        have f163 := f146.other W155 (Or.inl ho.2.2.2.1)
        have f164 := f147.other W155 ho.2.2.2.2.2.2.2.2.2.1
        have f165 := f148.other W155 ho.2.2.2.2.2.2.2.2.2.2.2.2.2.2.1
        have f166 := f149.other W155 ho.2.2.2.2.2.2.2.2.2.2.2.2.2.2.2.2.2.2.1
        have f167 := f151.other W155 (Ne.symm ho.2.2.2.2.2.2.2.2.2.2.2.2.2.2.2.2.2.2.2.2.2.2.1)
        have f168 := fw138.other W155 (Ne.symm ho.2.2.2.2.2.2.2.2.2.2.2.2.2.2.2.2.2.2.2.2.2.2.2.1)
        have f169 := f152.other W155 (Ne.symm ho.2.2.2.2.2.2.2.2.2.2.2.2.2.2.2.2.2.2.2.2.2.2.2.2.1)
        have K155 : Keep h0 h155 [zf, zd, zn, zp] := K138.wr W155 (Or.inl (List.mem_of_getElem? (i := 0) rfl))
        exact W.ret0 X155 hx hlk Bd.returns (hb hby d6_121) (by show Q6_1 Z ao xs zb zx zy zf zd zn zp S k h0 n0 _ T155.heap _; rw [e155]; refine ⟨rfl, N155, K155, ?_⟩; unfold own_add; rw [if_pos c97]; exact ⟨f156, f157, f158, f159, f160, f161, f162, f163, f164, f165, f166, fw155, f167, f168, f169⟩) (by decide) (by decide)
      · refine W.s1 (mkF m 101 #[.val (.ref ao), .val (.int xs), .val (.double (FP.l2d (1 : Int64))), .second, .val (.double (FP.l2d (0 : Int64))), .second, .val (.int (-1 : Int32)), .val (.int (1 : Int32))] [(.ref ao)]) (fun _ kx_ => XS.aloadN X153.here hx rfl (hb hby d6_100) rfl rfl kx_) ?_
        refine W.getf X153 hx hZ hown (host := "") (Or.inl (hw _ (List.mem_of_getElem? (i := 32) rfl))) Via.refl e153 f146 (hb hby d6_101) (pc' := 104) rfl (fun T170 X170 e170 => ?_)
        refine W.s1 (mkF m 105 #[.val (.ref ao), .val (.int xs), .val (.double (FP.l2d (1 : Int64))), .second, .val (.double (FP.l2d (0 : Int64))), .second, .val (.int (-1 : Int32)), .val (.int (1 : Int32))] [(.ref ao), (.ref zp)]) (fun _ kx_ => XS.aloadN X170.here hx rfl (hb hby d6_104) rfl rfl kx_) ?_
        refine W.getf X170 hx hZ hown (host := "") (Or.inl (hw _ (List.mem_of_getElem? (i := 22) rfl))) Via.refl e170 f143 (hb hby d6_105) (pc' := 108) rfl (fun T171 X171 e171 => ?_)
        refine W.s1 (mkF m 110 #[.val (.ref ao), .val (.int xs), .val (.double (FP.l2d (1 : Int64))), .second, .val (.double (FP.l2d (0 : Int64))), .second, .val (.int (-1 : Int32)), .val (.int (1 : Int32))] [(.int (1 : Int32)), (.ref zf), (.ref zp)]) (fun _ kx_ => XS.iload X171.here hx rfl (hb hby d6_108) rfl kx_) ?_
        refine W.ldi X171 hx hZ e171 f150 1 rfl (by decide) (hb hby d6_110) (pc' := 111) rfl ?_
        refine W.s1 (mkF m 112 #[.val (.ref ao), .val (.int xs), .val (.double (FP.l2d (1 : Int64))), .second, .val (.double (FP.l2d (0 : Int64))), .second, .val (.int (-1 : Int32)), .val (.int (1 : Int32))] [(.int xs), (.int (S.1 1)), (.ref zp)]) (fun _ kx_ => XS.iloadN X171.here hx rfl (hb hby d6_111) rfl kx_) ?_
        have hok := own_okE (v2.resolve_left c97)
        refine W.sti X171 hx hZ e171 f152 (own_ix (S.1 1)) hok.1 hok.2 N138 hge.2.2.2.2.2.2.2 (hb hby d6_112) (pc' := 113) rfl (fun T172 h172 L172 X172 e172 W172 fw172 N172 => ?_)
        have Z172 : n0 ≤ h172.size := Nat.le_trans Z138 (Keep.of_wr W172).1
        have f173 := f139.wr W172
        have f174 := f140.other W172 (Or.inl ho.2.2.2.2.2.2.1)
        have f175 := f141.other W172 (Or.inl ho.2.2.2.2.2.2.1)
        have f176 := f142.other W172 (Or.inl ho.2.2.2.2.2.2.1)
        have f177 := f143.other W172 (Or.inl ho.2.2.2.2.2.2.1)
        have f178 := f144.other W172 (Or.inl ho.2.2.2.2.2.2.1)
        have f179 := f145.other W172 (Or.inl ho.2.2.2.2.2.2.1)
        have f180 := f146.other W172 (Or.inl ho.2.2.2.2.2.2.1)
        have f181 := f147.other W172 ho.2.2.2.2.2.2.2.2.2.2.2.2.1
        have f182 := f148.other W172 ho.2.2.2.2.2.2.2.2.2.2.2.2.2.2.2.2.2.1
        have f183 := f149.other W172 ho.2.2.2.2.2.2.2.2.2.2.2.2.2.2.2.2.2.2.2.2.2.1
        have f184 := f150.other W172 ho.2.2.2.2.2.2.2.2.2.2.2.2.2.2.2.2.2.2.2.2.2.2.2.2.1
        have f185 := f151.other W172 ho.2.2.2.2.2.2.2.2.2.2.2.2.2.2.2.2.2.2.2.2.2.2.2.2.2.2.1
        have f186 := fw138.other W172 ho.2.2.2.2.2.2.2.2.2.2.2.2.2.2.2.2.2.2.2.2.2.2.2.2.2.2.2
        have K172 : Keep h0 h172 [zf, zd, zn, zp] := K138.wr W172 (Or.inl (List.mem_of_getElem? (i := 3) rfl))
        refine W.s1 (mkF m 114 #[.val (.ref ao), .val (.int xs), .val (.double (FP.l2d (1 : Int64))), .second, .val (.double (FP.l2d (0 : Int64))), .second, .val (.int (-1 : Int32)), .val (.int (1 : Int32))] [(.ref ao)]) (fun _ kx_ => XS.aloadN X172.here hx rfl (hb hby d6_113) rfl rfl kx_) ?_
        refine W.getf X172 hx hZ hown (host := "") (Or.inl (hw _ (List.mem_of_getElem? (i := 22) rfl))) Via.refl e172 f177 (hb hby d6_114) (pc' := 117) rfl (fun T187 X187 e187 => ?_)
        refine W.s1 (mkF m 119 #[.val (.ref ao), .val (.int xs), .val (.double (FP.l2d (1 : Int64))), .second, .val (.double (FP.l2d (0 : Int64))), .second, .val (.int (-1 : Int32)), .val (.int (1 : Int32))] [(.int (1 : Int32)), (.ref zf)]) (fun _ kx_ => XS.iload X187.here hx rfl (hb hby d6_117) rfl kx_) ?_
        refine W.s1 (mkF m 120 #[.val (.ref ao), .val (.int xs), .val (.double (FP.l2d (1 : Int64))), .second, .val (.double (FP.l2d (0 : Int64))), .second, .val (.int (-1 : Int32)), .val (.int (1 : Int32))] [(.int xs), (.int (1 : Int32)), (.ref zf)]) (fun _ kx_ => XS.iloadN X187.here hx rfl (hb hby d6_119) rfl kx_) ?_
        refine W.sti X187 hx hZ e187 f184 1 rfl (by decide) N172 hge.2.2.2.2.1 (hb hby d6_120) (pc' := 121) rfl (fun T188 h188 L188 X188 e188 W188 fw188 N188 => ?_)
        have Z188 : n0 ≤ h188.size := Nat.le_trans Z172 (Keep.of_wr W188).1
        have f189 := f173.wr W188
        have f190 := f174.other W188 (Or.inl ho.2.2.2.1)
        have f191 := f175.other W188 (Or.inl ho.2.2.2.1)
        have f192 := f176.other W188 (Or.inl ho.2.2.2.1)
        have f193 := f177.other W188 (Or.inl ho.2.2.2.1)
        have f194 := f178.other W188 (Or.inl ho.2.2.2.1)
        have f195 := f179.other W188 (Or.inl ho.2.2.2.1)
        have f196 := f180.other W188 (Or.inl ho.2.2.2.1)
        have f197 := f181.other W188 ho.2.2.2.2.2.2.2.2.2.1
        have f198 := f182.other W188 ho.2.2.2.2.2.2.2.2.2.2.2.2.2.2.1
        have f199 := f183.other W188 ho.2.2.2.2.2.2.2.2.2.2.2.2.2.2.2.2.2.2.1
        have f200 := f185.other W188 (Ne.symm ho.2.2.2.2.2.2.2.2.2.2.2.2.2.2.2.2.2.2.2.2.2.2.1)
        have f201 := f186.other W188 (Ne.symm ho.2.2.2.2.2.2.2.2.2.2.2.2.2.2.2.2.2.2.2.2.2.2.2.1)
        have f202 := fw172.other W188 (Ne.symm ho.2.2.2.2.2.2.2.2.2.2.2.2.2.2.2.2.2.2.2.2.2.2.2.2.1)
        have K188 : Keep h0 h188 [zf, zd, zn, zp] := K172.wr W188 (Or.inl (List.mem_of_getElem? (i := 0) rfl))
        exact W.ret0 X188 hx hlk Bd.returns (hb hby d6_121) (by show Q6_1 Z ao xs zb zx zy zf zd zn zp S k h0 n0 _ T188.heap _; rw [e188]; refine ⟨rfl, N188, K188, ?_⟩; unfold own_add; rw [if_neg c97]; exact ⟨f189, f190, f191, f192, f193, f194, f195, f196, f197, f198, f199, fw188, f200, f201, f202⟩) (by decide) (by decide)
    · exact absurd c44 (by decide)
  · exact absurd v1 c7
def Qaif (Z : State) (ao : Addr) (xs xc : Int32) (zb : Addr) (zx : Addr) (zy : Addr) (zf : Addr) (zd : Addr) (zn : Addr) (zp : Addr) (S : own_S) (k : Nat) (h0 : Heap) (n0 : Nat) (v : Option Value) (h : Heap) (L : List Loc) : Prop := v = none ∧ Fr n0 L ∧ Keep h0 h [zf, zd, zn, zp] ∧ own_PC Z h ao zb zx zy zf zd zn zp (own_aif xs xc k S)
theorem ef_5_0 (m : MethodId) (x0 : Addr) (x1 : Int32) (x2 : Int32) : entryFrame m #[(.ref x0), (.int x1), (.int x2)] 3 = mkF m 0 #[.val (.ref x0), .val (.int x1), .val (.int x2)] [] := by first | (simp [entryFrame, mkF, argsToLocals, Value.category]; done) | rfl
theorem d5_0 : decode method_3_code 0 = .ok (.iload_n 2, 1) := by decide +kernel
theorem d5_1 : decode method_3_code 1 = .ok (.ifCond .eq 14, 3) := by decide +kernel
theorem d5_15 : decode method_3_code 15 = .ok (.return_, 1) := by decide +kernel
set_option maxRecDepth 65536 in
set_option maxHeartbeats 40000000 in
theorem rm5_0 (l : Launch) (Z : State) (a0 : Array Value) (hw : ∀ d ∈ tables_1, d.before a0 Z = true) (ws : List Jvm.Cond) (ao : Addr) (xs : Int32) (zb : Addr) (zx : Addr) (zy : Addr) (zf : Addr) (zd : Addr) (zn : Addr) (zp : Addr) (S : own_S) (k : Nat) (h0 : Heap) (n0 : Nat) (Z0 : n0 ≤ h0.size) (H0 : own_PC Z h0 ao zb zx zy zf zd zn zp S) (ho : own_ord ao zb zx zy zf zd zn zp) (hge : own_ge n0 ao zb zx zy zf zd zn zp) (hk : xs.toInt = k) (hk3 : k < 3) (hv : own_aifV 0 k S = true) :
    MetFree l (⟨"com/example/stummel/stummel/geometry/PendingCrossingsCancelPinLaw", "addIf", "(Lcom/example/stummel/stummel/geometry/PendingCrossings;II)V"⟩ : MethodName) (head1 (Jvm.Cond.code (⟨"com/example/stummel/stummel/geometry/PendingCrossingsCancelPinLaw", "addIf", "(Lcom/example/stummel/stummel/geometry/PendingCrossings;II)V"⟩ : MethodName) method_3_code 3 none :: ws) ({ frames := 3, cells := 0, slots := 0, locals := 60 } : Room)) (fun a U => a = #[(.ref ao), (.int xs), (.int (0 : Int32))] ∧ Z.Warmed39 U.vm ∧ U.heap = h0) (fun _ _ _ _ _ => True) (fun _ U o U' => ∃ v L, o = .returned v ∧ Qaif Z ao xs (0 : Int32) zb zx zy zf zd zn zp S k h0 n0 v U'.heap L ∧ FrameEnd U o U' L ({ frames := 3, cells := 0, slots := 0, locals := 60 } : Room).cells ({ frames := 3, cells := 0, slots := 0, locals := 60 } : Room).slots) := by
  refine MetFree.of_bodySF (plainFor_of_name pn_0) hisR ?_
  intro p e s m args below meth c s₁ Bd hml0 hP hK
  obtain ⟨rfl, hZ, hh⟩ := hP
  have hx := Bd.exec
  have hby := Bd.bytes
  have hml : c.maxLocals = 3 := hml0
  have hown : s.vm.findClass "com/example/stummel/stummel/geometry/PendingCrossingsCancelPinLaw" = some m.cls := findClass_of_methodNamed Bd.named
  have hnm := (name_of_methodNamed Bd.named Bd.method).1
  have hlk : meth.locks = false := BodyLoose.notSynchronized Bd
  have X0 : Stand p l e ({ frames := 3, cells := 0, slots := 0, locals := 60 } : Room) s m #[(.ref ao), (.int xs), (.int (0 : Int32))] below meth c s₁ [] 0 0 := Stand.of_body Bd
  have e0 : s₁.heap = h0 := by rw [← hh, Bd.state]; rfl
  have N0 := Fr.nil n0
  show W.Gl p e below s (Qaif Z ao xs (0 : Int32) zb zx zy zf zd zn zp S k h0 n0) ({ frames := 3, cells := 0, slots := 0, locals := 60 } : Room).cells ({ frames := 3, cells := 0, slots := 0, locals := 60 } : Room).slots s₁ (entryFrame m #[(.ref ao), (.int xs), (.int (0 : Int32))] 3)
  refine W.cast (ef_5_0 m ao xs (0 : Int32)) ?_
  have K0 : Keep h0 h0 [zf, zd, zn, zp] := Keep.refl h0 [zf, zd, zn, zp]
  have H1 := H0
  obtain ⟨ue, ur0, ur1, ur2, ur3, ur4, ur5, ur6, ua0, ua1, ua2, ua3, ua4, ua5, ua6⟩ := H0
  refine W.s1 (mkF m 1 #[.val (.ref ao), .val (.int xs), .val (.int (0 : Int32))] [(.int (0 : Int32))]) (fun _ kx_ => XS.iloadN X0.here hx rfl (hb hby d5_0) rfl kx_) ?_
  refine W.ifc X0 hx (hb hby d5_1) (pc' := 15) (pc'' := 4) (by decide) (by decide) rfl (fun (c1 : (0 : Int32) = (0 : Int32)) => ?_) (fun (c1 : ¬ (0 : Int32) = (0 : Int32)) => ?_)
  · exact W.ret0 X0 hx hlk Bd.returns (hb hby d5_15) (by show Qaif Z ao xs (0 : Int32) zb zx zy zf zd zn zp S k h0 n0 _ s₁.heap _; rw [e0]; refine ⟨rfl, N0, K0, ?_⟩; rw [own_a0]; exact ⟨ue, ur0, ur1, ur2, ur3, ur4, ur5, ur6, ua0, ua1, ua2, ua3, ua4, ua5, ua6⟩) (by decide) (by decide)
  · exact absurd c1 (by decide)
theorem ef_5_1 (m : MethodId) (x0 : Addr) (x1 : Int32) (x2 : Int32) : entryFrame m #[(.ref x0), (.int x1), (.int x2)] 3 = mkF m 0 #[.val (.ref x0), .val (.int x1), .val (.int x2)] [] := by first | (simp [entryFrame, mkF, argsToLocals, Value.category]; done) | rfl
theorem d5_4 : decode method_3_code 4 = .ok (.aload_n 0, 1) := by decide +kernel
theorem d5_5 : decode method_3_code 5 = .ok (.iload_n 1, 1) := by decide +kernel
theorem d5_6 : decode method_3_code 6 = .ok (.iload_n 2, 1) := by decide +kernel
theorem d5_7 : decode method_3_code 7 = .ok (.iconst 1, 1) := by decide +kernel
theorem d5_8 : decode method_3_code 8 = .ok (.isub, 1) := by decide +kernel
theorem d5_9 : decode method_3_code 9 = .ok (.i2d, 1) := by decide +kernel
theorem d5_10 : decode method_3_code 10 = .ok (.dconst 0, 1) := by decide +kernel
theorem d5_11 : decode method_3_code 11 = .ok (.iconst (-1), 1) := by decide +kernel
theorem d5_12 : decode method_3_code 12 = .ok (.invokevirtual 31, 3) := by decide +kernel
theorem pd_3 : parseMethodDescriptor "(IDDI)V" = some ⟨[.int, .double, .double, .int], none⟩ := by decide +kernel
set_option maxRecDepth 65536 in
set_option maxHeartbeats 40000000 in
theorem rm5_1 (l : Launch) (Z : State) (a0 : Array Value) (hw : ∀ d ∈ tables_1, d.before a0 Z = true) (ws : List Jvm.Cond) (ao : Addr) (xs : Int32) (zb : Addr) (zx : Addr) (zy : Addr) (zf : Addr) (zd : Addr) (zn : Addr) (zp : Addr) (S : own_S) (k : Nat) (h0 : Heap) (n0 : Nat) (Z0 : n0 ≤ h0.size) (H0 : own_PC Z h0 ao zb zx zy zf zd zn zp S) (ho : own_ord ao zb zx zy zf zd zn zp) (hge : own_ge n0 ao zb zx zy zf zd zn zp) (hk : xs.toInt = k) (hk3 : k < 3) (hv : own_aifV 1 k S = true) :
    MetFree l (⟨"com/example/stummel/stummel/geometry/PendingCrossingsCancelPinLaw", "addIf", "(Lcom/example/stummel/stummel/geometry/PendingCrossings;II)V"⟩ : MethodName) (head1 (Jvm.Cond.code (⟨"com/example/stummel/stummel/geometry/PendingCrossingsCancelPinLaw", "addIf", "(Lcom/example/stummel/stummel/geometry/PendingCrossings;II)V"⟩ : MethodName) method_3_code 3 none :: ws) ({ frames := 3, cells := 0, slots := 0, locals := 60 } : Room)) (fun a U => a = #[(.ref ao), (.int xs), (.int (1 : Int32))] ∧ Z.Warmed39 U.vm ∧ U.heap = h0) (fun _ _ _ _ _ => True) (fun _ U o U' => ∃ v L, o = .returned v ∧ Qaif Z ao xs (1 : Int32) zb zx zy zf zd zn zp S k h0 n0 v U'.heap L ∧ FrameEnd U o U' L ({ frames := 3, cells := 0, slots := 0, locals := 60 } : Room).cells ({ frames := 3, cells := 0, slots := 0, locals := 60 } : Room).slots) := by
  refine MetFree.of_bodySF (plainFor_of_name pn_0) hisR ?_
  intro p e s m args below meth c s₁ Bd hml0 hP hK
  obtain ⟨rfl, hZ, hh⟩ := hP
  have hx := Bd.exec
  have hby := Bd.bytes
  have hml : c.maxLocals = 3 := hml0
  have hown : s.vm.findClass "com/example/stummel/stummel/geometry/PendingCrossingsCancelPinLaw" = some m.cls := findClass_of_methodNamed Bd.named
  have hnm := (name_of_methodNamed Bd.named Bd.method).1
  have hlk : meth.locks = false := BodyLoose.notSynchronized Bd
  have X0 : Stand p l e ({ frames := 3, cells := 0, slots := 0, locals := 60 } : Room) s m #[(.ref ao), (.int xs), (.int (1 : Int32))] below meth c s₁ [] 0 0 := Stand.of_body Bd
  have e0 : s₁.heap = h0 := by rw [← hh, Bd.state]; rfl
  have N0 := Fr.nil n0
  show W.Gl p e below s (Qaif Z ao xs (1 : Int32) zb zx zy zf zd zn zp S k h0 n0) ({ frames := 3, cells := 0, slots := 0, locals := 60 } : Room).cells ({ frames := 3, cells := 0, slots := 0, locals := 60 } : Room).slots s₁ (entryFrame m #[(.ref ao), (.int xs), (.int (1 : Int32))] 3)
  refine W.cast (ef_5_1 m ao xs (1 : Int32)) ?_
  have K0 : Keep h0 h0 [zf, zd, zn, zp] := Keep.refl h0 [zf, zd, zn, zp]
  have H1 := H0
  obtain ⟨ue, ur0, ur1, ur2, ur3, ur4, ur5, ur6, ua0, ua1, ua2, ua3, ua4, ua5, ua6⟩ := H0
  refine W.s1 (mkF m 1 #[.val (.ref ao), .val (.int xs), .val (.int (1 : Int32))] [(.int (1 : Int32))]) (fun _ kx_ => XS.iloadN X0.here hx rfl (hb hby d5_0) rfl kx_) ?_
  refine W.ifc X0 hx (hb hby d5_1) (pc' := 15) (pc'' := 4) (by decide) (by decide) rfl (fun (c1 : (1 : Int32) = (0 : Int32)) => ?_) (fun (c1 : ¬ (1 : Int32) = (0 : Int32)) => ?_)
  · exact absurd c1 (by decide)
  · refine W.s1 (mkF m 5 #[.val (.ref ao), .val (.int xs), .val (.int (1 : Int32))] [(.ref ao)]) (fun _ kx_ => XS.aloadN X0.here hx rfl (hb hby d5_4) rfl rfl kx_) ?_
    refine W.s1 (mkF m 6 #[.val (.ref ao), .val (.int xs), .val (.int (1 : Int32))] [(.int xs), (.ref ao)]) (fun _ kx_ => XS.iloadN X0.here hx rfl (hb hby d5_5) rfl kx_) ?_
    refine W.s1 (mkF m 7 #[.val (.ref ao), .val (.int xs), .val (.int (1 : Int32))] [(.int (1 : Int32)), (.int xs), (.ref ao)]) (fun _ kx_ => XS.iloadN X0.here hx rfl (hb hby d5_6) rfl kx_) ?_
    refine W.s1 (mkF m 8 #[.val (.ref ao), .val (.int xs), .val (.int (1 : Int32))] [(.int (1 : Int32)), (.int (1 : Int32)), (.int xs), (.ref ao)]) (fun _ kx_ => XS.iconst X0.here hx rfl (hb hby d5_7) kx_) ?_
    refine W.s1 (mkF m 9 #[.val (.ref ao), .val (.int xs), .val (.int (1 : Int32))] [(.int (0 : Int32)), (.int xs), (.ref ao)]) (fun _ kx_ => XS.isub X0.here hx rfl (hb hby d5_8) rfl kx_) ?_
    refine W.s1 (mkF m 10 #[.val (.ref ao), .val (.int xs), .val (.int (1 : Int32))] [(.double (FP.l2d (0 : Int64))), (.int xs), (.ref ao)]) (fun _ kx_ => XS.i2dS X0.here hx rfl (hb hby d5_9) rfl ((i2d_w _).trans (congrArg FP.l2d (by decide +kernel))) kx_) ?_
    refine W.s1 (mkF m 11 #[.val (.ref ao), .val (.int xs), .val (.int (1 : Int32))] [(.double (FP.l2d (0 : Int64))), (.double (FP.l2d (0 : Int64))), (.int xs), (.ref ao)]) (fun _ kx_ => XS.dconst0 X0.here hx rfl (hb hby d5_10) (by decide +kernel) kx_) ?_
    refine W.s1 (mkF m 12 #[.val (.ref ao), .val (.int xs), .val (.int (1 : Int32))] [(.int (-1 : Int32)), (.double (FP.l2d (0 : Int64))), (.double (FP.l2d (0 : Int64))), (.int xs), (.ref ao)]) (fun _ kx_ => XS.iconst X0.here hx rfl (hb hby d5_11) kx_) ?_
    obtain ⟨cq101, kq101, q101a, q101b, q101c⟩ := isOf hZ e0 ue
    obtain ⟨_, _, ⟨T101, L101, k101, n101⟩, -, X101, ⟨Lc101, hQ101, l101, y101, z101⟩, st101⟩ := X0.virtualBack hx (y := (⟨"com/example/stummel/stummel/geometry/PendingCrossings", "add", "(IDDI)V"⟩ : MethodName)) (z := (⟨"com/example/stummel/stummel/geometry/PendingCrossings", "add", "(IDDI)V"⟩ : MethodName)) hown (mvT hZ (hw _ (List.mem_of_getElem? (i := 37) rfl))) (mvT hZ (hw _ (List.mem_of_getElem? (i := 38) rfl))) (notFace_of_selects (args := #[]) (mvT hZ (hw _ (List.mem_of_getElem? (i := 40) rfl)))) (mvT hZ (hw _ (List.mem_of_getElem? (i := 40) rfl))) (mvT hZ (hw _ (List.mem_of_getElem? (i := 39) rfl))) (by decide) (backOf (W := 0) (rm6_0 l Z a0 hw [] ao xs zb zx zy zf zd zn zp S k h0 n0 Z0 H1 ho hge hk hk3 (own_aV1 hv)) hZ (hw _ (List.mem_of_getElem? (i := 41) rfl)) (hw _ (List.mem_of_getElem? (i := 8) rfl)) (by decide) (by decide)) q101a q101c (g := (mkF m 12 #[.val (.ref ao), .val (.int xs), .val (.int (1 : Int32))] [(.int (-1 : Int32)), (.double (FP.l2d (0 : Int64))), (.double (FP.l2d (0 : Int64))), (.int xs), (.ref ao)])) rfl (by rw [hml]; rfl) (Steps.refl _) (argsL := [(.int xs), (.double (FP.l2d (0 : Int64))), (.double (FP.l2d (0 : Int64))), (.int (-1 : Int32))]) (rest := []) (lenOf pd_3 rfl) rfl (by show 2 * 0 + _ ≤ _; exact Nat.le_of_eq rfl) (hb hby d5_12) (fun _ _ => ⟨rfl, e0, (by decide : 0 + 0 ≤ _), (by decide : 0 + 0 ≤ _)⟩)
    dsimp only [Pt.U, Pt.locs, Pt.cells, Pt.slots] at X101 l101 y101 z101 st101 hQ101
    subst l101 y101 z101
    obtain ⟨h101, e101⟩ : ∃ z, T101.heap = z := ⟨_, rfl⟩
    rw [e101] at hQ101
    obtain ⟨rfl, Nq101, Kq101, Hn⟩ := hQ101
    have N101 := Fr.app N0 Nq101
    have Z101 : n0 ≤ h101.size := Nat.le_trans Z0 Kq101.1
    have K101 : Keep h0 h101 [zf, zd, zn, zp] := K0.trans Kq101 (allS (Or.inl (List.mem_of_getElem? (i := 0) rfl)) (allS (Or.inl (List.mem_of_getElem? (i := 1) rfl)) (allS (Or.inl (List.mem_of_getElem? (i := 2) rfl)) (allS (Or.inl (List.mem_of_getElem? (i := 3) rfl)) all0))))
    have f102 := ue.keep Kq101
    have f103 := ur0.keep Kq101 (ninS ho.2.2.2.1 (ninS ho.2.2.2.2.1 (ninS ho.2.2.2.2.2.1 (ninS ho.2.2.2.2.2.2.1 nin0))))
    have f104 := ur1.keep Kq101 (ninS ho.2.2.2.1 (ninS ho.2.2.2.2.1 (ninS ho.2.2.2.2.2.1 (ninS ho.2.2.2.2.2.2.1 nin0))))
    have f105 := ur2.keep Kq101 (ninS ho.2.2.2.1 (ninS ho.2.2.2.2.1 (ninS ho.2.2.2.2.2.1 (ninS ho.2.2.2.2.2.2.1 nin0))))
    have f106 := ur3.keep Kq101 (ninS ho.2.2.2.1 (ninS ho.2.2.2.2.1 (ninS ho.2.2.2.2.2.1 (ninS ho.2.2.2.2.2.2.1 nin0))))
    have f107 := ur4.keep Kq101 (ninS ho.2.2.2.1 (ninS ho.2.2.2.2.1 (ninS ho.2.2.2.2.2.1 (ninS ho.2.2.2.2.2.2.1 nin0))))
    have f108 := ur5.keep Kq101 (ninS ho.2.2.2.1 (ninS ho.2.2.2.2.1 (ninS ho.2.2.2.2.2.1 (ninS ho.2.2.2.2.2.2.1 nin0))))
    have f109 := ur6.keep Kq101 (ninS ho.2.2.2.1 (ninS ho.2.2.2.2.1 (ninS ho.2.2.2.2.2.1 (ninS ho.2.2.2.2.2.2.1 nin0))))
    have f110 := ua0.keep Kq101 (ninS ho.2.2.2.2.2.2.2.2.2.1 (ninS ho.2.2.2.2.2.2.2.2.2.2.1 (ninS ho.2.2.2.2.2.2.2.2.2.2.2.1 (ninS ho.2.2.2.2.2.2.2.2.2.2.2.2.1 nin0))))
    have f111 := ua1.keep Kq101 (ninS ho.2.2.2.2.2.2.2.2.2.2.2.2.2.2.1 (ninS ho.2.2.2.2.2.2.2.2.2.2.2.2.2.2.2.1 (ninS ho.2.2.2.2.2.2.2.2.2.2.2.2.2.2.2.2.1 (ninS ho.2.2.2.2.2.2.2.2.2.2.2.2.2.2.2.2.2.1 nin0))))
    have f112 := ua2.keep Kq101 (ninS ho.2.2.2.2.2.2.2.2.2.2.2.2.2.2.2.2.2.2.1 (ninS ho.2.2.2.2.2.2.2.2.2.2.2.2.2.2.2.2.2.2.2.1 (ninS ho.2.2.2.2.2.2.2.2.2.2.2.2.2.2.2.2.2.2.2.2.1 (ninS ho.2.2.2.2.2.2.2.2.2.2.2.2.2.2.2.2.2.2.2.2.2.1 nin0))))
    refine W.s3 (mkF m 15 #[.val (.ref ao), .val (.int xs), .val (.int (1 : Int32))] []) st101 ?_
    exact W.ret0 X101 hx hlk Bd.returns (hb hby d5_15) (by show Qaif Z ao xs (1 : Int32) zb zx zy zf zd zn zp S k h0 n0 _ T101.heap _; rw [e101]; refine ⟨rfl, N101, K101, ?_⟩; rw [own_a1]; exact Hn) (by decide) (by decide)
theorem ef_5_2 (m : MethodId) (x0 : Addr) (x1 : Int32) (x2 : Int32) : entryFrame m #[(.ref x0), (.int x1), (.int x2)] 3 = mkF m 0 #[.val (.ref x0), .val (.int x1), .val (.int x2)] [] := by first | (simp [entryFrame, mkF, argsToLocals, Value.category]; done) | rfl
set_option maxRecDepth 65536 in
set_option maxHeartbeats 40000000 in
theorem rm5_2 (l : Launch) (Z : State) (a0 : Array Value) (hw : ∀ d ∈ tables_1, d.before a0 Z = true) (ws : List Jvm.Cond) (ao : Addr) (xs : Int32) (zb : Addr) (zx : Addr) (zy : Addr) (zf : Addr) (zd : Addr) (zn : Addr) (zp : Addr) (S : own_S) (k : Nat) (h0 : Heap) (n0 : Nat) (Z0 : n0 ≤ h0.size) (H0 : own_PC Z h0 ao zb zx zy zf zd zn zp S) (ho : own_ord ao zb zx zy zf zd zn zp) (hge : own_ge n0 ao zb zx zy zf zd zn zp) (hk : xs.toInt = k) (hk3 : k < 3) (hv : own_aifV 2 k S = true) :
    MetFree l (⟨"com/example/stummel/stummel/geometry/PendingCrossingsCancelPinLaw", "addIf", "(Lcom/example/stummel/stummel/geometry/PendingCrossings;II)V"⟩ : MethodName) (head1 (Jvm.Cond.code (⟨"com/example/stummel/stummel/geometry/PendingCrossingsCancelPinLaw", "addIf", "(Lcom/example/stummel/stummel/geometry/PendingCrossings;II)V"⟩ : MethodName) method_3_code 3 none :: ws) ({ frames := 3, cells := 0, slots := 0, locals := 60 } : Room)) (fun a U => a = #[(.ref ao), (.int xs), (.int (2 : Int32))] ∧ Z.Warmed39 U.vm ∧ U.heap = h0) (fun _ _ _ _ _ => True) (fun _ U o U' => ∃ v L, o = .returned v ∧ Qaif Z ao xs (2 : Int32) zb zx zy zf zd zn zp S k h0 n0 v U'.heap L ∧ FrameEnd U o U' L ({ frames := 3, cells := 0, slots := 0, locals := 60 } : Room).cells ({ frames := 3, cells := 0, slots := 0, locals := 60 } : Room).slots) := by
  refine MetFree.of_bodySF (plainFor_of_name pn_0) hisR ?_
  intro p e s m args below meth c s₁ Bd hml0 hP hK
  obtain ⟨rfl, hZ, hh⟩ := hP
  have hx := Bd.exec
  have hby := Bd.bytes
  have hml : c.maxLocals = 3 := hml0
  have hown : s.vm.findClass "com/example/stummel/stummel/geometry/PendingCrossingsCancelPinLaw" = some m.cls := findClass_of_methodNamed Bd.named
  have hnm := (name_of_methodNamed Bd.named Bd.method).1
  have hlk : meth.locks = false := BodyLoose.notSynchronized Bd
  have X0 : Stand p l e ({ frames := 3, cells := 0, slots := 0, locals := 60 } : Room) s m #[(.ref ao), (.int xs), (.int (2 : Int32))] below meth c s₁ [] 0 0 := Stand.of_body Bd
  have e0 : s₁.heap = h0 := by rw [← hh, Bd.state]; rfl
  have N0 := Fr.nil n0
  show W.Gl p e below s (Qaif Z ao xs (2 : Int32) zb zx zy zf zd zn zp S k h0 n0) ({ frames := 3, cells := 0, slots := 0, locals := 60 } : Room).cells ({ frames := 3, cells := 0, slots := 0, locals := 60 } : Room).slots s₁ (entryFrame m #[(.ref ao), (.int xs), (.int (2 : Int32))] 3)
  refine W.cast (ef_5_2 m ao xs (2 : Int32)) ?_
  have K0 : Keep h0 h0 [zf, zd, zn, zp] := Keep.refl h0 [zf, zd, zn, zp]
  have H1 := H0
  obtain ⟨ue, ur0, ur1, ur2, ur3, ur4, ur5, ur6, ua0, ua1, ua2, ua3, ua4, ua5, ua6⟩ := H0
  refine W.s1 (mkF m 1 #[.val (.ref ao), .val (.int xs), .val (.int (2 : Int32))] [(.int (2 : Int32))]) (fun _ kx_ => XS.iloadN X0.here hx rfl (hb hby d5_0) rfl kx_) ?_
  refine W.ifc X0 hx (hb hby d5_1) (pc' := 15) (pc'' := 4) (by decide) (by decide) rfl (fun (c1 : (2 : Int32) = (0 : Int32)) => ?_) (fun (c1 : ¬ (2 : Int32) = (0 : Int32)) => ?_)
  · exact absurd c1 (by decide)
  · refine W.s1 (mkF m 5 #[.val (.ref ao), .val (.int xs), .val (.int (2 : Int32))] [(.ref ao)]) (fun _ kx_ => XS.aloadN X0.here hx rfl (hb hby d5_4) rfl rfl kx_) ?_
    refine W.s1 (mkF m 6 #[.val (.ref ao), .val (.int xs), .val (.int (2 : Int32))] [(.int xs), (.ref ao)]) (fun _ kx_ => XS.iloadN X0.here hx rfl (hb hby d5_5) rfl kx_) ?_
    refine W.s1 (mkF m 7 #[.val (.ref ao), .val (.int xs), .val (.int (2 : Int32))] [(.int (2 : Int32)), (.int xs), (.ref ao)]) (fun _ kx_ => XS.iloadN X0.here hx rfl (hb hby d5_6) rfl kx_) ?_
    refine W.s1 (mkF m 8 #[.val (.ref ao), .val (.int xs), .val (.int (2 : Int32))] [(.int (1 : Int32)), (.int (2 : Int32)), (.int xs), (.ref ao)]) (fun _ kx_ => XS.iconst X0.here hx rfl (hb hby d5_7) kx_) ?_
    refine W.s1 (mkF m 9 #[.val (.ref ao), .val (.int xs), .val (.int (2 : Int32))] [(.int (1 : Int32)), (.int xs), (.ref ao)]) (fun _ kx_ => XS.isub X0.here hx rfl (hb hby d5_8) rfl kx_) ?_
    refine W.s1 (mkF m 10 #[.val (.ref ao), .val (.int xs), .val (.int (2 : Int32))] [(.double (FP.l2d (1 : Int64))), (.int xs), (.ref ao)]) (fun _ kx_ => XS.i2dS X0.here hx rfl (hb hby d5_9) rfl ((i2d_w _).trans (congrArg FP.l2d (by decide +kernel))) kx_) ?_
    refine W.s1 (mkF m 11 #[.val (.ref ao), .val (.int xs), .val (.int (2 : Int32))] [(.double (FP.l2d (0 : Int64))), (.double (FP.l2d (1 : Int64))), (.int xs), (.ref ao)]) (fun _ kx_ => XS.dconst0 X0.here hx rfl (hb hby d5_10) (by decide +kernel) kx_) ?_
    refine W.s1 (mkF m 12 #[.val (.ref ao), .val (.int xs), .val (.int (2 : Int32))] [(.int (-1 : Int32)), (.double (FP.l2d (0 : Int64))), (.double (FP.l2d (1 : Int64))), (.int xs), (.ref ao)]) (fun _ kx_ => XS.iconst X0.here hx rfl (hb hby d5_11) kx_) ?_
    obtain ⟨cq101, kq101, q101a, q101b, q101c⟩ := isOf hZ e0 ue
    obtain ⟨_, _, ⟨T101, L101, k101, n101⟩, -, X101, ⟨Lc101, hQ101, l101, y101, z101⟩, st101⟩ := X0.virtualBack hx (y := (⟨"com/example/stummel/stummel/geometry/PendingCrossings", "add", "(IDDI)V"⟩ : MethodName)) (z := (⟨"com/example/stummel/stummel/geometry/PendingCrossings", "add", "(IDDI)V"⟩ : MethodName)) hown (mvT hZ (hw _ (List.mem_of_getElem? (i := 37) rfl))) (mvT hZ (hw _ (List.mem_of_getElem? (i := 38) rfl))) (notFace_of_selects (args := #[]) (mvT hZ (hw _ (List.mem_of_getElem? (i := 40) rfl)))) (mvT hZ (hw _ (List.mem_of_getElem? (i := 40) rfl))) (mvT hZ (hw _ (List.mem_of_getElem? (i := 39) rfl))) (by decide) (backOf (W := 0) (rm6_1 l Z a0 hw [] ao xs zb zx zy zf zd zn zp S k h0 n0 Z0 H1 ho hge hk hk3 (own_aV2 hv)) hZ (hw _ (List.mem_of_getElem? (i := 41) rfl)) (hw _ (List.mem_of_getElem? (i := 8) rfl)) (by decide) (by decide)) q101a q101c (g := (mkF m 12 #[.val (.ref ao), .val (.int xs), .val (.int (2 : Int32))] [(.int (-1 : Int32)), (.double (FP.l2d (0 : Int64))), (.double (FP.l2d (1 : Int64))), (.int xs), (.ref ao)])) rfl (by rw [hml]; rfl) (Steps.refl _) (argsL := [(.int xs), (.double (FP.l2d (1 : Int64))), (.double (FP.l2d (0 : Int64))), (.int (-1 : Int32))]) (rest := []) (lenOf pd_3 rfl) rfl (by show 2 * 0 + _ ≤ _; exact Nat.le_of_eq rfl) (hb hby d5_12) (fun _ _ => ⟨rfl, e0, (by decide : 0 + 0 ≤ _), (by decide : 0 + 0 ≤ _)⟩)
    dsimp only [Pt.U, Pt.locs, Pt.cells, Pt.slots] at X101 l101 y101 z101 st101 hQ101
    subst l101 y101 z101
    obtain ⟨h101, e101⟩ : ∃ z, T101.heap = z := ⟨_, rfl⟩
    rw [e101] at hQ101
    obtain ⟨rfl, Nq101, Kq101, Hn⟩ := hQ101
    have N101 := Fr.app N0 Nq101
    have Z101 : n0 ≤ h101.size := Nat.le_trans Z0 Kq101.1
    have K101 : Keep h0 h101 [zf, zd, zn, zp] := K0.trans Kq101 (allS (Or.inl (List.mem_of_getElem? (i := 0) rfl)) (allS (Or.inl (List.mem_of_getElem? (i := 1) rfl)) (allS (Or.inl (List.mem_of_getElem? (i := 2) rfl)) (allS (Or.inl (List.mem_of_getElem? (i := 3) rfl)) all0))))
    have f102 := ue.keep Kq101
    have f103 := ur0.keep Kq101 (ninS ho.2.2.2.1 (ninS ho.2.2.2.2.1 (ninS ho.2.2.2.2.2.1 (ninS ho.2.2.2.2.2.2.1 nin0))))
    have f104 := ur1.keep Kq101 (ninS ho.2.2.2.1 (ninS ho.2.2.2.2.1 (ninS ho.2.2.2.2.2.1 (ninS ho.2.2.2.2.2.2.1 nin0))))
    have f105 := ur2.keep Kq101 (ninS ho.2.2.2.1 (ninS ho.2.2.2.2.1 (ninS ho.2.2.2.2.2.1 (ninS ho.2.2.2.2.2.2.1 nin0))))
    have f106 := ur3.keep Kq101 (ninS ho.2.2.2.1 (ninS ho.2.2.2.2.1 (ninS ho.2.2.2.2.2.1 (ninS ho.2.2.2.2.2.2.1 nin0))))
    have f107 := ur4.keep Kq101 (ninS ho.2.2.2.1 (ninS ho.2.2.2.2.1 (ninS ho.2.2.2.2.2.1 (ninS ho.2.2.2.2.2.2.1 nin0))))
    have f108 := ur5.keep Kq101 (ninS ho.2.2.2.1 (ninS ho.2.2.2.2.1 (ninS ho.2.2.2.2.2.1 (ninS ho.2.2.2.2.2.2.1 nin0))))
    have f109 := ur6.keep Kq101 (ninS ho.2.2.2.1 (ninS ho.2.2.2.2.1 (ninS ho.2.2.2.2.2.1 (ninS ho.2.2.2.2.2.2.1 nin0))))
    have f110 := ua0.keep Kq101 (ninS ho.2.2.2.2.2.2.2.2.2.1 (ninS ho.2.2.2.2.2.2.2.2.2.2.1 (ninS ho.2.2.2.2.2.2.2.2.2.2.2.1 (ninS ho.2.2.2.2.2.2.2.2.2.2.2.2.1 nin0))))
    have f111 := ua1.keep Kq101 (ninS ho.2.2.2.2.2.2.2.2.2.2.2.2.2.2.1 (ninS ho.2.2.2.2.2.2.2.2.2.2.2.2.2.2.2.1 (ninS ho.2.2.2.2.2.2.2.2.2.2.2.2.2.2.2.2.1 (ninS ho.2.2.2.2.2.2.2.2.2.2.2.2.2.2.2.2.2.1 nin0))))
    have f112 := ua2.keep Kq101 (ninS ho.2.2.2.2.2.2.2.2.2.2.2.2.2.2.2.2.2.2.1 (ninS ho.2.2.2.2.2.2.2.2.2.2.2.2.2.2.2.2.2.2.2.1 (ninS ho.2.2.2.2.2.2.2.2.2.2.2.2.2.2.2.2.2.2.2.2.1 (ninS ho.2.2.2.2.2.2.2.2.2.2.2.2.2.2.2.2.2.2.2.2.2.1 nin0))))
    refine W.s3 (mkF m 15 #[.val (.ref ao), .val (.int xs), .val (.int (2 : Int32))] []) st101 ?_
    exact W.ret0 X101 hx hlk Bd.returns (hb hby d5_15) (by show Qaif Z ao xs (2 : Int32) zb zx zy zf zd zn zp S k h0 n0 _ T101.heap _; rw [e101]; refine ⟨rfl, N101, K101, ?_⟩; rw [own_a2]; exact Hn) (by decide) (by decide)
theorem rm_aif (l : Launch) (Z : State) (a0 : Array Value) (hw : ∀ d ∈ tables_1, d.before a0 Z = true) (ws : List Jvm.Cond) (ao : Addr) (xs xc : Int32) (zb : Addr) (zx : Addr) (zy : Addr) (zf : Addr) (zd : Addr) (zn : Addr) (zp : Addr) (S : own_S) (k : Nat) (h0 : Heap) (n0 : Nat) (Z0 : n0 ≤ h0.size) (H0 : own_PC Z h0 ao zb zx zy zf zd zn zp S) (ho : own_ord ao zb zx zy zf zd zn zp) (hge : own_ge n0 ao zb zx zy zf zd zn zp) (hk : xs.toInt = k) (hk3 : k < 3) (hv : own_aifV xc k S = true) (hc : xc = 0 ∨ xc = 1 ∨ xc = 2) :
    MetFree l (⟨"com/example/stummel/stummel/geometry/PendingCrossingsCancelPinLaw", "addIf", "(Lcom/example/stummel/stummel/geometry/PendingCrossings;II)V"⟩ : MethodName) (head1 (Jvm.Cond.code (⟨"com/example/stummel/stummel/geometry/PendingCrossingsCancelPinLaw", "addIf", "(Lcom/example/stummel/stummel/geometry/PendingCrossings;II)V"⟩ : MethodName) method_3_code 3 none :: ws) ({ frames := 3, cells := 0, slots := 0, locals := 60 } : Room)) (fun a U => a = #[(.ref ao), (.int xs), (.int xc)] ∧ Z.Warmed39 U.vm ∧ U.heap = h0) (fun _ _ _ _ _ => True) (fun _ U o U' => ∃ v L, o = .returned v ∧ Qaif Z ao xs xc zb zx zy zf zd zn zp S k h0 n0 v U'.heap L ∧ FrameEnd U o U' L ({ frames := 3, cells := 0, slots := 0, locals := 60 } : Room).cells ({ frames := 3, cells := 0, slots := 0, locals := 60 } : Room).slots) := by
  rcases hc with rfl | rfl | rfl
  · exact rm5_0 l Z a0 hw ws ao xs zb zx zy zf zd zn zp S k h0 n0 Z0 H0 ho hge hk hk3 hv
  · exact rm5_1 l Z a0 hw ws ao xs zb zx zy zf zd zn zp S k h0 n0 Z0 H0 ho hge hk hk3 hv
  · exact rm5_2 l Z a0 hw ws ao xs zb zx zy zf zd zn zp S k h0 n0 Z0 H0 ho hge hk hk3 hv
theorem ef_9 (m : MethodId) (x0 : Addr) (x1 : Int32) : entryFrame m #[(.ref x0), (.int x1)] 3 = mkF m 0 #[.val (.ref x0), .val (.int x1), .unset] [] := by first | (simp [entryFrame, mkF, argsToLocals, Value.category]; done) | rfl
theorem d9_0 : decode prog_7_method_3_code 0 = .ok (.aload_n 0, 1) := by decide +kernel
theorem d9_1 : decode prog_7_method_3_code 1 = .ok (.getfield 29, 3) := by decide +kernel
theorem d9_4 : decode prog_7_method_3_code 4 = .ok (.iload_n 1, 1) := by decide +kernel
theorem d9_5 : decode prog_7_method_3_code 5 = .ok (.iaload, 1) := by decide +kernel
theorem d9_6 : decode prog_7_method_3_code 6 = .ok (.istore_n 2, 1) := by decide +kernel
theorem d9_7 : decode prog_7_method_3_code 7 = .ok (.iload_n 2, 1) := by decide +kernel
theorem d9_8 : decode prog_7_method_3_code 8 = .ok (.iconst (-1), 1) := by decide +kernel
theorem d9_9 : decode prog_7_method_3_code 9 = .ok (.if_icmp .ne 4, 3) := by decide +kernel
theorem d9_13 : decode prog_7_method_3_code 13 = .ok (.aload_n 0, 1) := by decide +kernel
theorem d9_14 : decode prog_7_method_3_code 14 = .ok (.getfield 35, 3) := by decide +kernel
theorem d9_17 : decode prog_7_method_3_code 17 = .ok (.iload_n 1, 1) := by decide +kernel
theorem d9_18 : decode prog_7_method_3_code 18 = .ok (.iaload, 1) := by decide +kernel
theorem d9_19 : decode prog_7_method_3_code 19 = .ok (.iconst (-1), 1) := by decide +kernel
theorem d9_20 : decode prog_7_method_3_code 20 = .ok (.if_icmp .ne 18, 3) := by decide +kernel
theorem d9_38 : decode prog_7_method_3_code 38 = .ok (.aload_n 0, 1) := by decide +kernel
theorem d9_39 : decode prog_7_method_3_code 39 = .ok (.getfield 32, 3) := by decide +kernel
theorem d9_42 : decode prog_7_method_3_code 42 = .ok (.aload_n 0, 1) := by decide +kernel
theorem d9_43 : decode prog_7_method_3_code 43 = .ok (.getfield 35, 3) := by decide +kernel
theorem d9_46 : decode prog_7_method_3_code 46 = .ok (.iload_n 1, 1) := by decide +kernel
theorem d9_47 : decode prog_7_method_3_code 47 = .ok (.iaload, 1) := by decide +kernel
theorem d9_48 : decode prog_7_method_3_code 48 = .ok (.aload_n 0, 1) := by decide +kernel
theorem d9_49 : decode prog_7_method_3_code 49 = .ok (.getfield 32, 3) := by decide +kernel
theorem d9_52 : decode prog_7_method_3_code 52 = .ok (.iload_n 1, 1) := by decide +kernel
theorem d9_53 : decode prog_7_method_3_code 53 = .ok (.iaload, 1) := by decide +kernel
theorem d9_54 : decode prog_7_method_3_code 54 = .ok (.iastore, 1) := by decide +kernel
theorem d9_55 : decode prog_7_method_3_code 55 = .ok (.aload_n 0, 1) := by decide +kernel
theorem d9_56 : decode prog_7_method_3_code 56 = .ok (.getfield 32, 3) := by decide +kernel
theorem d9_59 : decode prog_7_method_3_code 59 = .ok (.iload_n 1, 1) := by decide +kernel
theorem d9_60 : decode prog_7_method_3_code 60 = .ok (.iaload, 1) := by decide +kernel
theorem d9_61 : decode prog_7_method_3_code 61 = .ok (.iconst (-1), 1) := by decide +kernel
theorem d9_62 : decode prog_7_method_3_code 62 = .ok (.if_icmp .eq 20, 3) := by decide +kernel
theorem d9_82 : decode prog_7_method_3_code 82 = .ok (.aload_n 0, 1) := by decide +kernel
theorem d9_83 : decode prog_7_method_3_code 83 = .ok (.getfield 29, 3) := by decide +kernel
theorem d9_86 : decode prog_7_method_3_code 86 = .ok (.iload_n 1, 1) := by decide +kernel
theorem d9_87 : decode prog_7_method_3_code 87 = .ok (.iconst (-1), 1) := by decide +kernel
theorem d9_88 : decode prog_7_method_3_code 88 = .ok (.iastore, 1) := by decide +kernel
theorem d9_89 : decode prog_7_method_3_code 89 = .ok (.return_, 1) := by decide +kernel
theorem d9_65 : decode prog_7_method_3_code 65 = .ok (.aload_n 0, 1) := by decide +kernel
theorem d9_66 : decode prog_7_method_3_code 66 = .ok (.getfield 35, 3) := by decide +kernel
theorem d9_69 : decode prog_7_method_3_code 69 = .ok (.aload_n 0, 1) := by decide +kernel
theorem d9_70 : decode prog_7_method_3_code 70 = .ok (.getfield 32, 3) := by decide +kernel
theorem d9_73 : decode prog_7_method_3_code 73 = .ok (.iload_n 1, 1) := by decide +kernel
theorem d9_74 : decode prog_7_method_3_code 74 = .ok (.iaload, 1) := by decide +kernel
theorem d9_75 : decode prog_7_method_3_code 75 = .ok (.aload_n 0, 1) := by decide +kernel
theorem d9_76 : decode prog_7_method_3_code 76 = .ok (.getfield 35, 3) := by decide +kernel
theorem d9_79 : decode prog_7_method_3_code 79 = .ok (.iload_n 1, 1) := by decide +kernel
theorem d9_80 : decode prog_7_method_3_code 80 = .ok (.iaload, 1) := by decide +kernel
theorem d9_81 : decode prog_7_method_3_code 81 = .ok (.iastore, 1) := by decide +kernel
theorem d9_23 : decode prog_7_method_3_code 23 = .ok (.aload_n 0, 1) := by decide +kernel
theorem d9_24 : decode prog_7_method_3_code 24 = .ok (.getfield 20, 3) := by decide +kernel
theorem d9_27 : decode prog_7_method_3_code 27 = .ok (.iload_n 2, 1) := by decide +kernel
theorem d9_28 : decode prog_7_method_3_code 28 = .ok (.aload_n 0, 1) := by decide +kernel
theorem d9_29 : decode prog_7_method_3_code 29 = .ok (.getfield 32, 3) := by decide +kernel
theorem d9_32 : decode prog_7_method_3_code 32 = .ok (.iload_n 1, 1) := by decide +kernel
theorem d9_33 : decode prog_7_method_3_code 33 = .ok (.iaload, 1) := by decide +kernel
theorem d9_34 : decode prog_7_method_3_code 34 = .ok (.iastore, 1) := by decide +kernel
theorem d9_35 : decode prog_7_method_3_code 35 = .ok (.goto 20, 3) := by decide +kernel
theorem d9_12 : decode prog_7_method_3_code 12 = .ok (.return_, 1) := by decide +kernel
def Q9 (Z : State) (ao : Addr) (xs : Int32) (zb : Addr) (zx : Addr) (zy : Addr) (zf : Addr) (zd : Addr) (zn : Addr) (zp : Addr) (S : own_S) (k : Nat) (h0 : Heap) (n0 : Nat) (v : Option Value) (h : Heap) (L : List Loc) : Prop := v = none ∧ Fr n0 L ∧ Keep h0 h [zf, zd, zn, zp] ∧ own_PC Z h ao zb zx zy zf zd zn zp (own_can k S.1 S.2.1 S.2.2.1 S.2.2.2)
set_option maxRecDepth 65536 in
set_option maxHeartbeats 40000000 in
theorem rm9 (l : Launch) (Z : State) (a0 : Array Value) (hw : ∀ d ∈ tables_1, d.before a0 Z = true) (ws : List Jvm.Cond) (ao : Addr) (xs : Int32) (zb : Addr) (zx : Addr) (zy : Addr) (zf : Addr) (zd : Addr) (zn : Addr) (zp : Addr) (S : own_S) (k : Nat) (h0 : Heap) (n0 : Nat) (Z0 : n0 ≤ h0.size) (H0 : own_PC Z h0 ao zb zx zy zf zd zn zp S) (ho : own_ord ao zb zx zy zf zd zn zp) (hge : own_ge n0 ao zb zx zy zf zd zn zp) (hk : xs.toInt = k) (hk3 : k < 3) (hv : own_canV k S.2.1 S.2.2.1 S.2.2.2 = true) :
    MetFree l (⟨"com/example/stummel/stummel/geometry/PendingCrossings", "cancel", "(I)V"⟩ : MethodName) (head1 (Jvm.Cond.code (⟨"com/example/stummel/stummel/geometry/PendingCrossings", "cancel", "(I)V"⟩ : MethodName) prog_7_method_3_code 3 none :: ws) ({ frames := 0, cells := 0, slots := 0, locals := 0 } : Room)) (fun a U => a = #[(.ref ao), (.int xs)] ∧ Z.Warmed39 U.vm ∧ U.heap = h0) (fun _ _ _ _ _ => True) (fun _ U o U' => ∃ v L, o = .returned v ∧ Q9 Z ao xs zb zx zy zf zd zn zp S k h0 n0 v U'.heap L ∧ FrameEnd U o U' L ({ frames := 0, cells := 0, slots := 0, locals := 0 } : Room).cells ({ frames := 0, cells := 0, slots := 0, locals := 0 } : Room).slots) := by
  refine MetFree.of_bodySF (plainFor_of_name pn_2) hisR ?_
  intro p e s m args below meth c s₁ Bd hml0 hP hK
  obtain ⟨rfl, hZ, hh⟩ := hP
  have hx := Bd.exec
  have hby := Bd.bytes
  have hml : c.maxLocals = 3 := hml0
  have hown : s.vm.findClass "com/example/stummel/stummel/geometry/PendingCrossings" = some m.cls := findClass_of_methodNamed Bd.named
  have hnm := (name_of_methodNamed Bd.named Bd.method).1
  have hlk : meth.locks = false := BodyLoose.notSynchronized Bd
  have X0 : Stand p l e ({ frames := 0, cells := 0, slots := 0, locals := 0 } : Room) s m #[(.ref ao), (.int xs)] below meth c s₁ [] 0 0 := Stand.of_body Bd
  have e0 : s₁.heap = h0 := by rw [← hh, Bd.state]; rfl
  have N0 := Fr.nil n0
  show W.Gl p e below s (Q9 Z ao xs zb zx zy zf zd zn zp S k h0 n0) ({ frames := 0, cells := 0, slots := 0, locals := 0 } : Room).cells ({ frames := 0, cells := 0, slots := 0, locals := 0 } : Room).slots s₁ (entryFrame m #[(.ref ao), (.int xs)] 3)
  refine W.cast (ef_9 m ao xs) ?_
  have K0 : Keep h0 h0 [zf, zd, zn, zp] := Keep.refl h0 [zf, zd, zn, zp]
  obtain ⟨ue, ur0, ur1, ur2, ur3, ur4, ur5, ur6, ua0, ua1, ua2, ua3, ua4, ua5, ua6⟩ := H0
  refine W.s1 (mkF m 1 #[.val (.ref ao), .val (.int xs), .unset] [(.ref ao)]) (fun _ kx_ => XS.aloadN X0.here hx rfl (hb hby d9_0) rfl rfl kx_) ?_
  refine W.getf X0 hx hZ hown (host := "") (Or.inl (hw _ (List.mem_of_getElem? (i := 28) rfl))) Via.refl e0 ur4 (hb hby d9_1) (pc' := 4) rfl (fun T101 X101 e101 => ?_)
  refine W.s1 (mkF m 5 #[.val (.ref ao), .val (.int xs), .unset] [(.int xs), (.ref zd)]) (fun _ kx_ => XS.iloadN X101.here hx rfl (hb hby d9_4) rfl kx_) ?_
  refine W.ldi X101 hx hZ e101 ua4 k hk hk3 (hb hby d9_5) (pc' := 6) rfl ?_
  refine W.s1 (mkF m 7 #[.val (.ref ao), .val (.int xs), .val (.int (S.2.1 k))] []) (fun _ kx_ => XS.istoreN X101.here hx rfl (hb hby d9_6) rfl (l' := #[.val (.ref ao), .val (.int xs), .val (.int (S.2.1 k))]) rfl kx_) ?_
  refine W.s1 (mkF m 8 #[.val (.ref ao), .val (.int xs), .val (.int (S.2.1 k))] [(.int (S.2.1 k))]) (fun _ kx_ => XS.iloadN X101.here hx rfl (hb hby d9_7) rfl kx_) ?_
  refine W.s1 (mkF m 9 #[.val (.ref ao), .val (.int xs), .val (.int (S.2.1 k))] [(.int (-1 : Int32)), (.int (S.2.1 k))]) (fun _ kx_ => XS.iconst X101.here hx rfl (hb hby d9_8) kx_) ?_
  refine W.icmp X101 hx (hb hby d9_9) (pc' := 13) (pc'' := 12) (by decide) (by decide) rfl (fun (c9 : ¬ (S.2.1 k) = (-1 : Int32)) => ?_) (fun (c9 : (S.2.1 k) = (-1 : Int32)) => ?_)
  · refine W.s1 (mkF m 14 #[.val (.ref ao), .val (.int xs), .val (.int (S.2.1 k))] [(.ref ao)]) (fun _ kx_ => XS.aloadN X101.here hx rfl (hb hby d9_13) rfl rfl kx_) ?_
    refine W.getf X101 hx hZ hown (host := "") (Or.inl (hw _ (List.mem_of_getElem? (i := 32) rfl))) Via.refl e101 ur6 (hb hby d9_14) (pc' := 17) rfl (fun T102 X102 e102 => ?_)
    refine W.s1 (mkF m 18 #[.val (.ref ao), .val (.int xs), .val (.int (S.2.1 k))] [(.int xs), (.ref zp)]) (fun _ kx_ => XS.iloadN X102.here hx rfl (hb hby d9_17) rfl kx_) ?_
    refine W.ldi X102 hx hZ e102 ua6 k hk hk3 (hb hby d9_18) (pc' := 19) rfl ?_
    refine W.s1 (mkF m 20 #[.val (.ref ao), .val (.int xs), .val (.int (S.2.1 k))] [(.int (-1 : Int32)), (.int (S.2.2.2 k))]) (fun _ kx_ => XS.iconst X102.here hx rfl (hb hby d9_19) kx_) ?_
    refine W.icmp X102 hx (hb hby d9_20) (pc' := 38) (pc'' := 23) (by decide) (by decide) rfl (fun (c20 : ¬ (S.2.2.2 k) = (-1 : Int32)) => ?_) (fun (c20 : (S.2.2.2 k) = (-1 : Int32)) => ?_)
    · refine W.s1 (mkF m 39 #[.val (.ref ao), .val (.int xs), .val (.int (S.2.1 k))] [(.ref ao)]) (fun _ kx_ => XS.aloadN X102.here hx rfl (hb hby d9_38) rfl rfl kx_) ?_
      refine W.getf X102 hx hZ hown (host := "") (Or.inl (hw _ (List.mem_of_getElem? (i := 30) rfl))) Via.refl e102 ur5 (hb hby d9_39) (pc' := 42) rfl (fun T103 X103 e103 => ?_)
      refine W.s1 (mkF m 43 #[.val (.ref ao), .val (.int xs), .val (.int (S.2.1 k))] [(.ref ao), (.ref zn)]) (fun _ kx_ => XS.aloadN X103.here hx rfl (hb hby d9_42) rfl rfl kx_) ?_
      refine W.getf X103 hx hZ hown (host := "") (Or.inl (hw _ (List.mem_of_getElem? (i := 32) rfl))) Via.refl e103 ur6 (hb hby d9_43) (pc' := 46) rfl (fun T104 X104 e104 => ?_)
      refine W.s1 (mkF m 47 #[.val (.ref ao), .val (.int xs), .val (.int (S.2.1 k))] [(.int xs), (.ref zp), (.ref zn)]) (fun _ kx_ => XS.iloadN X104.here hx rfl (hb hby d9_46) rfl kx_) ?_
      refine W.ldi X104 hx hZ e104 ua6 k hk hk3 (hb hby d9_47) (pc' := 48) rfl ?_
      refine W.s1 (mkF m 49 #[.val (.ref ao), .val (.int xs), .val (.int (S.2.1 k))] [(.ref ao), (.int (S.2.2.2 k)), (.ref zn)]) (fun _ kx_ => XS.aloadN X104.here hx rfl (hb hby d9_48) rfl rfl kx_) ?_
      refine W.getf X104 hx hZ hown (host := "") (Or.inl (hw _ (List.mem_of_getElem? (i := 30) rfl))) Via.refl e104 ur5 (hb hby d9_49) (pc' := 52) rfl (fun T105 X105 e105 => ?_)
      refine W.s1 (mkF m 53 #[.val (.ref ao), .val (.int xs), .val (.int (S.2.1 k))] [(.int xs), (.ref zn), (.int (S.2.2.2 k)), (.ref zn)]) (fun _ kx_ => XS.iloadN X105.here hx rfl (hb hby d9_52) rfl kx_) ?_
      refine W.ldi X105 hx hZ e105 ua5 k hk hk3 (hb hby d9_53) (pc' := 54) rfl ?_
      have hob := own_okE (own_canC hv c9 c20).1
      refine W.sti X105 hx hZ e105 ua5 (own_ix (S.2.2.2 k)) hob.1 hob.2 N0 hge.2.2.2.2.2.2.1 (hb hby d9_54) (pc' := 55) rfl (fun T106 h106 L106 X106 e106 W106 fw106 N106 => ?_)
      have Z106 : n0 ≤ h106.size := Nat.le_trans Z0 (Keep.of_wr W106).1
      have f107 := ue.wr W106
      have f108 := ur0.other W106 (Or.inl ho.2.2.2.2.2.1)
      have f109 := ur1.other W106 (Or.inl ho.2.2.2.2.2.1)
      have f110 := ur2.other W106 (Or.inl ho.2.2.2.2.2.1)
      have f111 := ur3.other W106 (Or.inl ho.2.2.2.2.2.1)
      have f112 := ur4.other W106 (Or.inl ho.2.2.2.2.2.1)
      have f113 := ur5.other W106 (Or.inl ho.2.2.2.2.2.1)
      have f114 := ur6.other W106 (Or.inl ho.2.2.2.2.2.1)
      have f115 := ua0.other W106 ho.2.2.2.2.2.2.2.2.2.2.2.1
      have f116 := ua1.other W106 ho.2.2.2.2.2.2.2.2.2.2.2.2.2.2.2.2.1
      have f117 := ua2.other W106 ho.2.2.2.2.2.2.2.2.2.2.2.2.2.2.2.2.2.2.2.2.1
      have f118 := ua3.other W106 ho.2.2.2.2.2.2.2.2.2.2.2.2.2.2.2.2.2.2.2.2.2.2.2.1
      have f119 := ua4.other W106 ho.2.2.2.2.2.2.2.2.2.2.2.2.2.2.2.2.2.2.2.2.2.2.2.2.2.1
      have f120 := ua6.other W106 (Ne.symm ho.2.2.2.2.2.2.2.2.2.2.2.2.2.2.2.2.2.2.2.2.2.2.2.2.2.2.2)
      have K106 : Keep h0 h106 [zf, zd, zn, zp] := K0.wr W106 (Or.inl (List.mem_of_getElem? (i := 2) rfl))
      refine W.s1 (mkF m 56 #[.val (.ref ao), .val (.int xs), .val (.int (S.2.1 k))] [(.ref ao)]) (fun _ kx_ => XS.aloadN X106.here hx rfl (hb hby d9_55) rfl rfl kx_) ?_
      refine W.getf X106 hx hZ hown (host := "") (Or.inl (hw _ (List.mem_of_getElem? (i := 30) rfl))) Via.refl e106 f113 (hb hby d9_56) (pc' := 59) rfl (fun T121 X121 e121 => ?_)
      refine W.s1 (mkF m 60 #[.val (.ref ao), .val (.int xs), .val (.int (S.2.1 k))] [(.int xs), (.ref zn)]) (fun _ kx_ => XS.iloadN X121.here hx rfl (hb hby d9_59) rfl kx_) ?_
      refine W.ldi X121 hx hZ e121 fw106 k hk hk3 (hb hby d9_60) (pc' := 61) rfl ?_
      refine W.s1 (mkF m 62 #[.val (.ref ao), .val (.int xs), .val (.int (S.2.1 k))] [(.int (-1 : Int32)), (.int ((W.up S.2.2.1 (own_ix (S.2.2.2 k)) (S.2.2.1 k)) k))]) (fun _ kx_ => XS.iconst X121.here hx rfl (hb hby d9_61) kx_) ?_
      refine W.icmp X121 hx (hb hby d9_62) (pc' := 82) (pc'' := 65) (by decide) (by decide) rfl (fun (c62 : ((W.up S.2.2.1 (own_ix (S.2.2.2 k)) (S.2.2.1 k)) k) = (-1 : Int32)) => ?_) (fun (c62 : ¬ ((W.up S.2.2.1 (own_ix (S.2.2.2 k)) (S.2.2.1 k)) k) = (-1 : Int32)) => ?_)
      · refine W.s1 (mkF m 83 #[.val (.ref ao), .val (.int xs), .val (.int (S.2.1 k))] [(.ref ao)]) (fun _ kx_ => XS.aloadN X121.here hx rfl (hb hby d9_82) rfl rfl kx_) ?_
        refine W.getf X121 hx hZ hown (host := "") (Or.inl (hw _ (List.mem_of_getElem? (i := 28) rfl))) Via.refl e121 f112 (hb hby d9_83) (pc' := 86) rfl (fun T122 X122 e122 => ?_)
        refine W.s1 (mkF m 87 #[.val (.ref ao), .val (.int xs), .val (.int (S.2.1 k))] [(.int xs), (.ref zd)]) (fun _ kx_ => XS.iloadN X122.here hx rfl (hb hby d9_86) rfl kx_) ?_
        refine W.s1 (mkF m 88 #[.val (.ref ao), .val (.int xs), .val (.int (S.2.1 k))] [(.int (-1 : Int32)), (.int xs), (.ref zd)]) (fun _ kx_ => XS.iconst X122.here hx rfl (hb hby d9_87) kx_) ?_
        refine W.sti X122 hx hZ e122 f119 k hk hk3 N106 hge.2.2.2.2.2.1 (hb hby d9_88) (pc' := 89) rfl (fun T123 h123 L123 X123 e123 W123 fw123 N123 => ?_)
        have Z123 : n0 ≤ h123.size := Nat.le_trans Z106 (Keep.of_wr W123).1
        have f124 := f107.wr W123
        have f125 := f108.other W123 (Or.inl ho.2.2.2.2.1)
        have f126 := f109.other W123 (Or.inl ho.2.2.2.2.1)
        have f127 := f110.other W123 (Or.inl ho.2.2.2.2.1)
        have f128 := f111.other W123 (Or.inl ho.2.2.2.2.1)
        have f129 := f112.other W123 (Or.inl ho.2.2.2.2.1)
        have f130 := f113.other W123 (Or.inl ho.2.2.2.2.1)
        have f131 := f114.other W123 (Or.inl ho.2.2.2.2.1)
        have f132 := f115.other W123 ho.2.2.2.2.2.2.2.2.2.2.1
        have f133 := f116.other W123 ho.2.2.2.2.2.2.2.2.2.2.2.2.2.2.2.1
        have f134 := f117.other W123 ho.2.2.2.2.2.2.2.2.2.2.2.2.2.2.2.2.2.2.2.1
        have f135 := f118.other W123 ho.2.2.2.2.2.2.2.2.2.2.2.2.2.2.2.2.2.2.2.2.2.2.1
        have f136 := fw106.other W123 (Ne.symm ho.2.2.2.2.2.2.2.2.2.2.2.2.2.2.2.2.2.2.2.2.2.2.2.2.2.1)
        have f137 := f120.other W123 (Ne.symm ho.2.2.2.2.2.2.2.2.2.2.2.2.2.2.2.2.2.2.2.2.2.2.2.2.2.2.1)
        have K123 : Keep h0 h123 [zf, zd, zn, zp] := K106.wr W123 (Or.inl (List.mem_of_getElem? (i := 1) rfl))
        exact W.ret0 X123 hx hlk Bd.returns (hb hby d9_89) (by show Q9 Z ao xs zb zx zy zf zd zn zp S k h0 n0 _ T123.heap _; rw [e123]; refine ⟨rfl, N123, K123, ?_⟩; unfold own_can; rw [if_neg c9, if_neg c20, if_pos c62]; exact ⟨f124, f125, f126, f127, f128, f129, f130, f131, f132, f133, f134, f135, fw123, f136, f137⟩) (by decide) (by decide)
      · refine W.s1 (mkF m 66 #[.val (.ref ao), .val (.int xs), .val (.int (S.2.1 k))] [(.ref ao)]) (fun _ kx_ => XS.aloadN X121.here hx rfl (hb hby d9_65) rfl rfl kx_) ?_
        refine W.getf X121 hx hZ hown (host := "") (Or.inl (hw _ (List.mem_of_getElem? (i := 32) rfl))) Via.refl e121 f114 (hb hby d9_66) (pc' := 69) rfl (fun T138 X138 e138 => ?_)
        refine W.s1 (mkF m 70 #[.val (.ref ao), .val (.int xs), .val (.int (S.2.1 k))] [(.ref ao), (.ref zp)]) (fun _ kx_ => XS.aloadN X138.here hx rfl (hb hby d9_69) rfl rfl kx_) ?_
        refine W.getf X138 hx hZ hown (host := "") (Or.inl (hw _ (List.mem_of_getElem? (i := 30) rfl))) Via.refl e138 f113 (hb hby d9_70) (pc' := 73) rfl (fun T139 X139 e139 => ?_)
        refine W.s1 (mkF m 74 #[.val (.ref ao), .val (.int xs), .val (.int (S.2.1 k))] [(.int xs), (.ref zn), (.ref zp)]) (fun _ kx_ => XS.iloadN X139.here hx rfl (hb hby d9_73) rfl kx_) ?_
        refine W.ldi X139 hx hZ e139 fw106 k hk hk3 (hb hby d9_74) (pc' := 75) rfl ?_
        refine W.s1 (mkF m 76 #[.val (.ref ao), .val (.int xs), .val (.int (S.2.1 k))] [(.ref ao), (.int ((W.up S.2.2.1 (own_ix (S.2.2.2 k)) (S.2.2.1 k)) k)), (.ref zp)]) (fun _ kx_ => XS.aloadN X139.here hx rfl (hb hby d9_75) rfl rfl kx_) ?_
        refine W.getf X139 hx hZ hown (host := "") (Or.inl (hw _ (List.mem_of_getElem? (i := 32) rfl))) Via.refl e139 f114 (hb hby d9_76) (pc' := 79) rfl (fun T140 X140 e140 => ?_)
        refine W.s1 (mkF m 80 #[.val (.ref ao), .val (.int xs), .val (.int (S.2.1 k))] [(.int xs), (.ref zp), (.int ((W.up S.2.2.1 (own_ix (S.2.2.2 k)) (S.2.2.1 k)) k)), (.ref zp)]) (fun _ kx_ => XS.iloadN X140.here hx rfl (hb hby d9_79) rfl kx_) ?_
        refine W.ldi X140 hx hZ e140 f120 k hk hk3 (hb hby d9_80) (pc' := 81) rfl ?_
        have hoc := own_okE ((own_canC hv c9 c20).2.resolve_left c62)
        refine W.sti X140 hx hZ e140 f120 (own_ix ((W.up S.2.2.1 (own_ix (S.2.2.2 k)) (S.2.2.1 k)) k)) hoc.1 hoc.2 N106 hge.2.2.2.2.2.2.2 (hb hby d9_81) (pc' := 82) rfl (fun T141 h141 L141 X141 e141 W141 fw141 N141 => ?_)
        have Z141 : n0 ≤ h141.size := Nat.le_trans Z106 (Keep.of_wr W141).1
        have f142 := f107.wr W141
        have f143 := f108.other W141 (Or.inl ho.2.2.2.2.2.2.1)
        have f144 := f109.other W141 (Or.inl ho.2.2.2.2.2.2.1)
        have f145 := f110.other W141 (Or.inl ho.2.2.2.2.2.2.1)
        have f146 := f111.other W141 (Or.inl ho.2.2.2.2.2.2.1)
        have f147 := f112.other W141 (Or.inl ho.2.2.2.2.2.2.1)
        have f148 := f113.other W141 (Or.inl ho.2.2.2.2.2.2.1)
        have f149 := f114.other W141 (Or.inl ho.2.2.2.2.2.2.1)
        have f150 := f115.other W141 ho.2.2.2.2.2.2.2.2.2.2.2.2.1
        have f151 := f116.other W141 ho.2.2.2.2.2.2.2.2.2.2.2.2.2.2.2.2.2.1
        have f152 := f117.other W141 ho.2.2.2.2.2.2.2.2.2.2.2.2.2.2.2.2.2.2.2.2.2.1
        have f153 := f118.other W141 ho.2.2.2.2.2.2.2.2.2.2.2.2.2.2.2.2.2.2.2.2.2.2.2.2.1
        have f154 := f119.other W141 ho.2.2.2.2.2.2.2.2.2.2.2.2.2.2.2.2.2.2.2.2.2.2.2.2.2.2.1
        have f155 := fw106.other W141 ho.2.2.2.2.2.2.2.2.2.2.2.2.2.2.2.2.2.2.2.2.2.2.2.2.2.2.2
        have K141 : Keep h0 h141 [zf, zd, zn, zp] := K106.wr W141 (Or.inl (List.mem_of_getElem? (i := 3) rfl))
        refine W.s1 (mkF m 83 #[.val (.ref ao), .val (.int xs), .val (.int (S.2.1 k))] [(.ref ao)]) (fun _ kx_ => XS.aloadN X141.here hx rfl (hb hby d9_82) rfl rfl kx_) ?_
        refine W.getf X141 hx hZ hown (host := "") (Or.inl (hw _ (List.mem_of_getElem? (i := 28) rfl))) Via.refl e141 f147 (hb hby d9_83) (pc' := 86) rfl (fun T156 X156 e156 => ?_)
        refine W.s1 (mkF m 87 #[.val (.ref ao), .val (.int xs), .val (.int (S.2.1 k))] [(.int xs), (.ref zd)]) (fun _ kx_ => XS.iloadN X156.here hx rfl (hb hby d9_86) rfl kx_) ?_
        refine W.s1 (mkF m 88 #[.val (.ref ao), .val (.int xs), .val (.int (S.2.1 k))] [(.int (-1 : Int32)), (.int xs), (.ref zd)]) (fun _ kx_ => XS.iconst X156.here hx rfl (hb hby d9_87) kx_) ?_
        refine W.sti X156 hx hZ e156 f154 k hk hk3 N141 hge.2.2.2.2.2.1 (hb hby d9_88) (pc' := 89) rfl (fun T157 h157 L157 X157 e157 W157 fw157 N157 => ?_)
        have Z157 : n0 ≤ h157.size := Nat.le_trans Z141 (Keep.of_wr W157).1
        have f158 := f142.wr W157
        have f159 := f143.other W157 (Or.inl ho.2.2.2.2.1)
        have f160 := f144.other W157 (Or.inl ho.2.2.2.2.1)
        have f161 := f145.other W157 (Or.inl ho.2.2.2.2.1)
        have f162 := f146.other W157 (Or.inl ho.2.2.2.2.1)
        have f163 := f147.other W157 (Or.inl ho.2.2.2.2.1)
        have f164 := f148.other W157 (Or.inl ho.2.2.2.2.1)
        have f165 := f149.other W157 (Or.inl ho.2.2.2.2.1)
        have f166 := f150.other W157 ho.2.2.2.2.2.2.2.2.2.2.1
        have f167 := f151.other W157 ho.2.2.2.2.2.2.2.2.2.2.2.2.2.2.2.1
        have f168 := f152.other W157 ho.2.2.2.2.2.2.2.2.2.2.2.2.2.2.2.2.2.2.2.1
        have f169 := f153.other W157 ho.2.2.2.2.2.2.2.2.2.2.2.2.2.2.2.2.2.2.2.2.2.2.1
        have f170 := f155.other W157 (Ne.symm ho.2.2.2.2.2.2.2.2.2.2.2.2.2.2.2.2.2.2.2.2.2.2.2.2.2.1)
        have f171 := fw141.other W157 (Ne.symm ho.2.2.2.2.2.2.2.2.2.2.2.2.2.2.2.2.2.2.2.2.2.2.2.2.2.2.1)
        have K157 : Keep h0 h157 [zf, zd, zn, zp] := K141.wr W157 (Or.inl (List.mem_of_getElem? (i := 1) rfl))
        exact W.ret0 X157 hx hlk Bd.returns (hb hby d9_89) (by show Q9 Z ao xs zb zx zy zf zd zn zp S k h0 n0 _ T157.heap _; rw [e157]; refine ⟨rfl, N157, K157, ?_⟩; unfold own_can; rw [if_neg c9, if_neg c20, if_neg c62]; exact ⟨f158, f159, f160, f161, f162, f163, f164, f165, f166, f167, f168, f169, fw157, f170, f171⟩) (by decide) (by decide)
    · refine W.s1 (mkF m 24 #[.val (.ref ao), .val (.int xs), .val (.int (S.2.1 k))] [(.ref ao)]) (fun _ kx_ => XS.aloadN X102.here hx rfl (hb hby d9_23) rfl rfl kx_) ?_
      refine W.getf X102 hx hZ hown (host := "") (Or.inl (hw _ (List.mem_of_getElem? (i := 22) rfl))) Via.refl e102 ur3 (hb hby d9_24) (pc' := 27) rfl (fun T172 X172 e172 => ?_)
      refine W.s1 (mkF m 28 #[.val (.ref ao), .val (.int xs), .val (.int (S.2.1 k))] [(.int (S.2.1 k)), (.ref zf)]) (fun _ kx_ => XS.iloadN X172.here hx rfl (hb hby d9_27) rfl kx_) ?_
      refine W.s1 (mkF m 29 #[.val (.ref ao), .val (.int xs), .val (.int (S.2.1 k))] [(.ref ao), (.int (S.2.1 k)), (.ref zf)]) (fun _ kx_ => XS.aloadN X172.here hx rfl (hb hby d9_28) rfl rfl kx_) ?_
      refine W.getf X172 hx hZ hown (host := "") (Or.inl (hw _ (List.mem_of_getElem? (i := 30) rfl))) Via.refl e172 ur5 (hb hby d9_29) (pc' := 32) rfl (fun T173 X173 e173 => ?_)
      refine W.s1 (mkF m 33 #[.val (.ref ao), .val (.int xs), .val (.int (S.2.1 k))] [(.int xs), (.ref zn), (.int (S.2.1 k)), (.ref zf)]) (fun _ kx_ => XS.iloadN X173.here hx rfl (hb hby d9_32) rfl kx_) ?_
      refine W.ldi X173 hx hZ e173 ua5 k hk hk3 (hb hby d9_33) (pc' := 34) rfl ?_
      have hoa := own_okE (own_canA hv c9)
      refine W.sti X173 hx hZ e173 ua3 (own_ix (S.2.1 k)) hoa.1 hoa.2 N0 hge.2.2.2.2.1 (hb hby d9_34) (pc' := 35) rfl (fun T174 h174 L174 X174 e174 W174 fw174 N174 => ?_)
      have Z174 : n0 ≤ h174.size := Nat.le_trans Z0 (Keep.of_wr W174).1
      have f175 := ue.wr W174
      have f176 := ur0.other W174 (Or.inl ho.2.2.2.1)
      have f177 := ur1.other W174 (Or.inl ho.2.2.2.1)
      have f178 := ur2.other W174 (Or.inl ho.2.2.2.1)
      have f179 := ur3.other W174 (Or.inl ho.2.2.2.1)
      have f180 := ur4.other W174 (Or.inl ho.2.2.2.1)
      have f181 := ur5.other W174 (Or.inl ho.2.2.2.1)
      have f182 := ur6.other W174 (Or.inl ho.2.2.2.1)
      have f183 := ua0.other W174 ho.2.2.2.2.2.2.2.2.2.1
      have f184 := ua1.other W174 ho.2.2.2.2.2.2.2.2.2.2.2.2.2.2.1
      have f185 := ua2.other W174 ho.2.2.2.2.2.2.2.2.2.2.2.2.2.2.2.2.2.2.1
      have f186 := ua4.other W174 (Ne.symm ho.2.2.2.2.2.2.2.2.2.2.2.2.2.2.2.2.2.2.2.2.2.2.1)
      have f187 := ua5.other W174 (Ne.symm ho.2.2.2.2.2.2.2.2.2.2.2.2.2.2.2.2.2.2.2.2.2.2.2.1)
      have f188 := ua6.other W174 (Ne.symm ho.2.2.2.2.2.2.2.2.2.2.2.2.2.2.2.2.2.2.2.2.2.2.2.2.1)
      have K174 : Keep h0 h174 [zf, zd, zn, zp] := K0.wr W174 (Or.inl (List.mem_of_getElem? (i := 0) rfl))
      refine W.s1 (mkF m 55 #[.val (.ref ao), .val (.int xs), .val (.int (S.2.1 k))] []) (fun _ kx_ => XS.goto X174.here hx rfl (pc0 := 35) (pc' := 55) rfl (hb hby d9_35) (by decide) (by decide) kx_) ?_
      refine W.s1 (mkF m 56 #[.val (.ref ao), .val (.int xs), .val (.int (S.2.1 k))] [(.ref ao)]) (fun _ kx_ => XS.aloadN X174.here hx rfl (hb hby d9_55) rfl rfl kx_) ?_
      refine W.getf X174 hx hZ hown (host := "") (Or.inl (hw _ (List.mem_of_getElem? (i := 30) rfl))) Via.refl e174 f181 (hb hby d9_56) (pc' := 59) rfl (fun T189 X189 e189 => ?_)
      refine W.s1 (mkF m 60 #[.val (.ref ao), .val (.int xs), .val (.int (S.2.1 k))] [(.int xs), (.ref zn)]) (fun _ kx_ => XS.iloadN X189.here hx rfl (hb hby d9_59) rfl kx_) ?_
      refine W.ldi X189 hx hZ e189 f187 k hk hk3 (hb hby d9_60) (pc' := 61) rfl ?_
      refine W.s1 (mkF m 62 #[.val (.ref ao), .val (.int xs), .val (.int (S.2.1 k))] [(.int (-1 : Int32)), (.int (S.2.2.1 k))]) (fun _ kx_ => XS.iconst X189.here hx rfl (hb hby d9_61) kx_) ?_
      refine W.icmp X189 hx (hb hby d9_62) (pc' := 82) (pc'' := 65) (by decide) (by decide) rfl (fun (c62 : (S.2.2.1 k) = (-1 : Int32)) => ?_) (fun (c62 : ¬ (S.2.2.1 k) = (-1 : Int32)) => ?_)
      · refine W.s1 (mkF m 83 #[.val (.ref ao), .val (.int xs), .val (.int (S.2.1 k))] [(.ref ao)]) (fun _ kx_ => XS.aloadN X189.here hx rfl (hb hby d9_82) rfl rfl kx_) ?_
        refine W.getf X189 hx hZ hown (host := "") (Or.inl (hw _ (List.mem_of_getElem? (i := 28) rfl))) Via.refl e189 f180 (hb hby d9_83) (pc' := 86) rfl (fun T190 X190 e190 => ?_)
        refine W.s1 (mkF m 87 #[.val (.ref ao), .val (.int xs), .val (.int (S.2.1 k))] [(.int xs), (.ref zd)]) (fun _ kx_ => XS.iloadN X190.here hx rfl (hb hby d9_86) rfl kx_) ?_
        refine W.s1 (mkF m 88 #[.val (.ref ao), .val (.int xs), .val (.int (S.2.1 k))] [(.int (-1 : Int32)), (.int xs), (.ref zd)]) (fun _ kx_ => XS.iconst X190.here hx rfl (hb hby d9_87) kx_) ?_
        refine W.sti X190 hx hZ e190 f186 k hk hk3 N174 hge.2.2.2.2.2.1 (hb hby d9_88) (pc' := 89) rfl (fun T191 h191 L191 X191 e191 W191 fw191 N191 => ?_)
        have Z191 : n0 ≤ h191.size := Nat.le_trans Z174 (Keep.of_wr W191).1
        have f192 := f175.wr W191
        have f193 := f176.other W191 (Or.inl ho.2.2.2.2.1)
        have f194 := f177.other W191 (Or.inl ho.2.2.2.2.1)
        have f195 := f178.other W191 (Or.inl ho.2.2.2.2.1)
        have f196 := f179.other W191 (Or.inl ho.2.2.2.2.1)
        have f197 := f180.other W191 (Or.inl ho.2.2.2.2.1)
        have f198 := f181.other W191 (Or.inl ho.2.2.2.2.1)
        have f199 := f182.other W191 (Or.inl ho.2.2.2.2.1)
        have f200 := f183.other W191 ho.2.2.2.2.2.2.2.2.2.2.1
        have f201 := f184.other W191 ho.2.2.2.2.2.2.2.2.2.2.2.2.2.2.2.1
        have f202 := f185.other W191 ho.2.2.2.2.2.2.2.2.2.2.2.2.2.2.2.2.2.2.2.1
        have f203 := fw174.other W191 ho.2.2.2.2.2.2.2.2.2.2.2.2.2.2.2.2.2.2.2.2.2.2.1
        have f204 := f187.other W191 (Ne.symm ho.2.2.2.2.2.2.2.2.2.2.2.2.2.2.2.2.2.2.2.2.2.2.2.2.2.1)
        have f205 := f188.other W191 (Ne.symm ho.2.2.2.2.2.2.2.2.2.2.2.2.2.2.2.2.2.2.2.2.2.2.2.2.2.2.1)
        have K191 : Keep h0 h191 [zf, zd, zn, zp] := K174.wr W191 (Or.inl (List.mem_of_getElem? (i := 1) rfl))
        exact W.ret0 X191 hx hlk Bd.returns (hb hby d9_89) (by show Q9 Z ao xs zb zx zy zf zd zn zp S k h0 n0 _ T191.heap _; rw [e191]; refine ⟨rfl, N191, K191, ?_⟩; unfold own_can; rw [if_neg c9, if_pos c20, if_pos c62]; exact ⟨f192, f193, f194, f195, f196, f197, f198, f199, f200, f201, f202, f203, fw191, f204, f205⟩) (by decide) (by decide)
      · refine W.s1 (mkF m 66 #[.val (.ref ao), .val (.int xs), .val (.int (S.2.1 k))] [(.ref ao)]) (fun _ kx_ => XS.aloadN X189.here hx rfl (hb hby d9_65) rfl rfl kx_) ?_
        refine W.getf X189 hx hZ hown (host := "") (Or.inl (hw _ (List.mem_of_getElem? (i := 32) rfl))) Via.refl e189 f182 (hb hby d9_66) (pc' := 69) rfl (fun T206 X206 e206 => ?_)
        refine W.s1 (mkF m 70 #[.val (.ref ao), .val (.int xs), .val (.int (S.2.1 k))] [(.ref ao), (.ref zp)]) (fun _ kx_ => XS.aloadN X206.here hx rfl (hb hby d9_69) rfl rfl kx_) ?_
        refine W.getf X206 hx hZ hown (host := "") (Or.inl (hw _ (List.mem_of_getElem? (i := 30) rfl))) Via.refl e206 f181 (hb hby d9_70) (pc' := 73) rfl (fun T207 X207 e207 => ?_)
        refine W.s1 (mkF m 74 #[.val (.ref ao), .val (.int xs), .val (.int (S.2.1 k))] [(.int xs), (.ref zn), (.ref zp)]) (fun _ kx_ => XS.iloadN X207.here hx rfl (hb hby d9_73) rfl kx_) ?_
        refine W.ldi X207 hx hZ e207 f187 k hk hk3 (hb hby d9_74) (pc' := 75) rfl ?_
        refine W.s1 (mkF m 76 #[.val (.ref ao), .val (.int xs), .val (.int (S.2.1 k))] [(.ref ao), (.int (S.2.2.1 k)), (.ref zp)]) (fun _ kx_ => XS.aloadN X207.here hx rfl (hb hby d9_75) rfl rfl kx_) ?_
        refine W.getf X207 hx hZ hown (host := "") (Or.inl (hw _ (List.mem_of_getElem? (i := 32) rfl))) Via.refl e207 f182 (hb hby d9_76) (pc' := 79) rfl (fun T208 X208 e208 => ?_)
        refine W.s1 (mkF m 80 #[.val (.ref ao), .val (.int xs), .val (.int (S.2.1 k))] [(.int xs), (.ref zp), (.int (S.2.2.1 k)), (.ref zp)]) (fun _ kx_ => XS.iloadN X208.here hx rfl (hb hby d9_79) rfl kx_) ?_
        refine W.ldi X208 hx hZ e208 f188 k hk hk3 (hb hby d9_80) (pc' := 81) rfl ?_
        have hoc := own_okE ((own_canB hv c9 c20).resolve_left c62)
        refine W.sti X208 hx hZ e208 f188 (own_ix (S.2.2.1 k)) hoc.1 hoc.2 N174 hge.2.2.2.2.2.2.2 (hb hby d9_81) (pc' := 82) rfl (fun T209 h209 L209 X209 e209 W209 fw209 N209 => ?_)
        have Z209 : n0 ≤ h209.size := Nat.le_trans Z174 (Keep.of_wr W209).1
        have f210 := f175.wr W209
        have f211 := f176.other W209 (Or.inl ho.2.2.2.2.2.2.1)
        have f212 := f177.other W209 (Or.inl ho.2.2.2.2.2.2.1)
        have f213 := f178.other W209 (Or.inl ho.2.2.2.2.2.2.1)
        have f214 := f179.other W209 (Or.inl ho.2.2.2.2.2.2.1)
        have f215 := f180.other W209 (Or.inl ho.2.2.2.2.2.2.1)
        have f216 := f181.other W209 (Or.inl ho.2.2.2.2.2.2.1)
        have f217 := f182.other W209 (Or.inl ho.2.2.2.2.2.2.1)
        have f218 := f183.other W209 ho.2.2.2.2.2.2.2.2.2.2.2.2.1
        have f219 := f184.other W209 ho.2.2.2.2.2.2.2.2.2.2.2.2.2.2.2.2.2.1
        have f220 := f185.other W209 ho.2.2.2.2.2.2.2.2.2.2.2.2.2.2.2.2.2.2.2.2.2.1
        have f221 := fw174.other W209 ho.2.2.2.2.2.2.2.2.2.2.2.2.2.2.2.2.2.2.2.2.2.2.2.2.1
        have f222 := f186.other W209 ho.2.2.2.2.2.2.2.2.2.2.2.2.2.2.2.2.2.2.2.2.2.2.2.2.2.2.1
        have f223 := f187.other W209 ho.2.2.2.2.2.2.2.2.2.2.2.2.2.2.2.2.2.2.2.2.2.2.2.2.2.2.2
        have K209 : Keep h0 h209 [zf, zd, zn, zp] := K174.wr W209 (Or.inl (List.mem_of_getElem? (i := 3) rfl))
        refine W.s1 (mkF m 83 #[.val (.ref ao), .val (.int xs), .val (.int (S.2.1 k))] [(.ref ao)]) (fun _ kx_ => XS.aloadN X209.here hx rfl (hb hby d9_82) rfl rfl kx_) ?_
        refine W.getf X209 hx hZ hown (host := "") (Or.inl (hw _ (List.mem_of_getElem? (i := 28) rfl))) Via.refl e209 f215 (hb hby d9_83) (pc' := 86) rfl (fun T224 X224 e224 => ?_)
        refine W.s1 (mkF m 87 #[.val (.ref ao), .val (.int xs), .val (.int (S.2.1 k))] [(.int xs), (.ref zd)]) (fun _ kx_ => XS.iloadN X224.here hx rfl (hb hby d9_86) rfl kx_) ?_
        refine W.s1 (mkF m 88 #[.val (.ref ao), .val (.int xs), .val (.int (S.2.1 k))] [(.int (-1 : Int32)), (.int xs), (.ref zd)]) (fun _ kx_ => XS.iconst X224.here hx rfl (hb hby d9_87) kx_) ?_
        refine W.sti X224 hx hZ e224 f222 k hk hk3 N209 hge.2.2.2.2.2.1 (hb hby d9_88) (pc' := 89) rfl (fun T225 h225 L225 X225 e225 W225 fw225 N225 => ?_)
        have Z225 : n0 ≤ h225.size := Nat.le_trans Z209 (Keep.of_wr W225).1
        have f226 := f210.wr W225
        have f227 := f211.other W225 (Or.inl ho.2.2.2.2.1)
        have f228 := f212.other W225 (Or.inl ho.2.2.2.2.1)
        have f229 := f213.other W225 (Or.inl ho.2.2.2.2.1)
        have f230 := f214.other W225 (Or.inl ho.2.2.2.2.1)
        have f231 := f215.other W225 (Or.inl ho.2.2.2.2.1)
        have f232 := f216.other W225 (Or.inl ho.2.2.2.2.1)
        have f233 := f217.other W225 (Or.inl ho.2.2.2.2.1)
        have f234 := f218.other W225 ho.2.2.2.2.2.2.2.2.2.2.1
        have f235 := f219.other W225 ho.2.2.2.2.2.2.2.2.2.2.2.2.2.2.2.1
        have f236 := f220.other W225 ho.2.2.2.2.2.2.2.2.2.2.2.2.2.2.2.2.2.2.2.1
        have f237 := f221.other W225 ho.2.2.2.2.2.2.2.2.2.2.2.2.2.2.2.2.2.2.2.2.2.2.1
        have f238 := f223.other W225 (Ne.symm ho.2.2.2.2.2.2.2.2.2.2.2.2.2.2.2.2.2.2.2.2.2.2.2.2.2.1)
        have f239 := fw209.other W225 (Ne.symm ho.2.2.2.2.2.2.2.2.2.2.2.2.2.2.2.2.2.2.2.2.2.2.2.2.2.2.1)
        have K225 : Keep h0 h225 [zf, zd, zn, zp] := K209.wr W225 (Or.inl (List.mem_of_getElem? (i := 1) rfl))
        exact W.ret0 X225 hx hlk Bd.returns (hb hby d9_89) (by show Q9 Z ao xs zb zx zy zf zd zn zp S k h0 n0 _ T225.heap _; rw [e225]; refine ⟨rfl, N225, K225, ?_⟩; unfold own_can; rw [if_neg c9, if_pos c20, if_neg c62]; exact ⟨f226, f227, f228, f229, f230, f231, f232, f233, f234, f235, f236, f237, fw225, f238, f239⟩) (by decide) (by decide)
  · exact W.ret0 X101 hx hlk Bd.returns (hb hby d9_12) (by show Q9 Z ao xs zb zx zy zf zd zn zp S k h0 n0 _ T101.heap _; rw [e101]; refine ⟨rfl, N0, K0, ?_⟩; unfold own_can; rw [if_pos c9]; exact ⟨ue, ur0, ur1, ur2, ur3, ur4, ur5, ur6, ua0, ua1, ua2, ua3, ua4, ua5, ua6⟩) (by decide) (by decide)
theorem ef_11 (m : MethodId) (x0 : Addr) (x1 : Int32) : entryFrame m #[(.ref x0), (.int x1)] 3 = mkF m 0 #[.val (.ref x0), .val (.int x1), .unset] [] := by first | (simp [entryFrame, mkF, argsToLocals, Value.category]; done) | rfl
theorem d11_0 : decode prog_7_method_4_code 0 = .ok (.aload_n 0, 1) := by decide +kernel
theorem d11_1 : decode prog_7_method_4_code 1 = .ok (.getfield 20, 3) := by decide +kernel
theorem d11_4 : decode prog_7_method_4_code 4 = .ok (.iload_n 1, 1) := by decide +kernel
theorem d11_5 : decode prog_7_method_4_code 5 = .ok (.iaload, 1) := by decide +kernel
theorem d11_6 : decode prog_7_method_4_code 6 = .ok (.istore_n 2, 1) := by decide +kernel
theorem d11_7 : decode prog_7_method_4_code 7 = .ok (.iload_n 2, 1) := by decide +kernel
theorem d11_8 : decode prog_7_method_4_code 8 = .ok (.iconst (-1), 1) := by decide +kernel
theorem d11_9 : decode prog_7_method_4_code 9 = .ok (.if_icmp .eq 8, 3) := by decide +kernel
theorem d11_17 : decode prog_7_method_4_code 17 = .ok (.iload_n 2, 1) := by decide +kernel
theorem d11_18 : decode prog_7_method_4_code 18 = .ok (.ireturn, 1) := by decide +kernel
theorem d11_12 : decode prog_7_method_4_code 12 = .ok (.aload_n 0, 1) := by decide +kernel
theorem d11_13 : decode prog_7_method_4_code 13 = .ok (.iload_n 2, 1) := by decide +kernel
theorem d11_14 : decode prog_7_method_4_code 14 = .ok (.invokevirtual 52, 3) := by decide +kernel
theorem pd_4 : parseMethodDescriptor "(I)V" = some ⟨[.int], none⟩ := by decide +kernel
def Q11 (Z : State) (ao : Addr) (xp : Int32) (zb : Addr) (zx : Addr) (zy : Addr) (zf : Addr) (zd : Addr) (zn : Addr) (zp : Addr) (S : own_S) (p2 : Nat) (h0 : Heap) (n0 : Nat) (v : Option Value) (h : Heap) (L : List Loc) : Prop := v = some (.int (S.1 p2)) ∧ Fr n0 L ∧ Keep h0 h [zf, zd, zn, zp] ∧ own_PC Z h ao zb zx zy zf zd zn zp (own_tk p2 S)
set_option maxRecDepth 65536 in
set_option maxHeartbeats 40000000 in
theorem rm11 (l : Launch) (Z : State) (a0 : Array Value) (hw : ∀ d ∈ tables_1, d.before a0 Z = true) (ws : List Jvm.Cond) (ao : Addr) (xp : Int32) (zb : Addr) (zx : Addr) (zy : Addr) (zf : Addr) (zd : Addr) (zn : Addr) (zp : Addr) (S : own_S) (p2 : Nat) (h0 : Heap) (n0 : Nat) (Z0 : n0 ≤ h0.size) (H0 : own_PC Z h0 ao zb zx zy zf zd zn zp S) (ho : own_ord ao zb zx zy zf zd zn zp) (hge : own_ge n0 ao zb zx zy zf zd zn zp) (hk : xp.toInt = p2) (hk2 : p2 < 2) (hv : own_tkV p2 S = true) :
    MetFree l (⟨"com/example/stummel/stummel/geometry/PendingCrossings", "takeDue", "(I)I"⟩ : MethodName) (head1 (Jvm.Cond.code (⟨"com/example/stummel/stummel/geometry/PendingCrossings", "takeDue", "(I)I"⟩ : MethodName) prog_7_method_4_code 3 (some .int) :: ws) ({ frames := 1, cells := 0, slots := 0, locals := 14 } : Room)) (fun a U => a = #[(.ref ao), (.int xp)] ∧ Z.Warmed39 U.vm ∧ U.heap = h0) (fun _ _ _ _ _ => True) (fun _ U o U' => ∃ v L, o = .returned v ∧ Q11 Z ao xp zb zx zy zf zd zn zp S p2 h0 n0 v U'.heap L ∧ FrameEnd U o U' L ({ frames := 1, cells := 0, slots := 0, locals := 14 } : Room).cells ({ frames := 1, cells := 0, slots := 0, locals := 14 } : Room).slots) := by
  refine MetFree.of_bodySF (plainFor_of_name pn_2) hisR ?_
  intro p e s m args below meth c s₁ Bd hml0 hP hK
  obtain ⟨rfl, hZ, hh⟩ := hP
  have hx := Bd.exec
  have hby := Bd.bytes
  have hml : c.maxLocals = 3 := hml0
  have hown : s.vm.findClass "com/example/stummel/stummel/geometry/PendingCrossings" = some m.cls := findClass_of_methodNamed Bd.named
  have hnm := (name_of_methodNamed Bd.named Bd.method).1
  have hlk : meth.locks = false := BodyLoose.notSynchronized Bd
  have X0 : Stand p l e ({ frames := 1, cells := 0, slots := 0, locals := 14 } : Room) s m #[(.ref ao), (.int xp)] below meth c s₁ [] 0 0 := Stand.of_body Bd
  have e0 : s₁.heap = h0 := by rw [← hh, Bd.state]; rfl
  have N0 := Fr.nil n0
  show W.Gl p e below s (Q11 Z ao xp zb zx zy zf zd zn zp S p2 h0 n0) ({ frames := 1, cells := 0, slots := 0, locals := 14 } : Room).cells ({ frames := 1, cells := 0, slots := 0, locals := 14 } : Room).slots s₁ (entryFrame m #[(.ref ao), (.int xp)] 3)
  refine W.cast (ef_11 m ao xp) ?_
  have K0 : Keep h0 h0 [zf, zd, zn, zp] := Keep.refl h0 [zf, zd, zn, zp]
  have H1 := H0
  obtain ⟨ue, ur0, ur1, ur2, ur3, ur4, ur5, ur6, ua0, ua1, ua2, ua3, ua4, ua5, ua6⟩ := H0
  refine W.s1 (mkF m 1 #[.val (.ref ao), .val (.int xp), .unset] [(.ref ao)]) (fun _ kx_ => XS.aloadN X0.here hx rfl (hb hby d11_0) rfl rfl kx_) ?_
  refine W.getf X0 hx hZ hown (host := "") (Or.inl (hw _ (List.mem_of_getElem? (i := 22) rfl))) Via.refl e0 ur3 (hb hby d11_1) (pc' := 4) rfl (fun T101 X101 e101 => ?_)
  refine W.s1 (mkF m 5 #[.val (.ref ao), .val (.int xp), .unset] [(.int xp), (.ref zf)]) (fun _ kx_ => XS.iloadN X101.here hx rfl (hb hby d11_4) rfl kx_) ?_
  refine W.ldi X101 hx hZ e101 ua3 p2 hk hk2 (hb hby d11_5) (pc' := 6) rfl ?_
  refine W.s1 (mkF m 7 #[.val (.ref ao), .val (.int xp), .val (.int (S.1 p2))] []) (fun _ kx_ => XS.istoreN X101.here hx rfl (hb hby d11_6) rfl (l' := #[.val (.ref ao), .val (.int xp), .val (.int (S.1 p2))]) rfl kx_) ?_
  refine W.s1 (mkF m 8 #[.val (.ref ao), .val (.int xp), .val (.int (S.1 p2))] [(.int (S.1 p2))]) (fun _ kx_ => XS.iloadN X101.here hx rfl (hb hby d11_7) rfl kx_) ?_
  refine W.s1 (mkF m 9 #[.val (.ref ao), .val (.int xp), .val (.int (S.1 p2))] [(.int (-1 : Int32)), (.int (S.1 p2))]) (fun _ kx_ => XS.iconst X101.here hx rfl (hb hby d11_8) kx_) ?_
  refine W.icmp X101 hx (hb hby d11_9) (pc' := 17) (pc'' := 12) (by decide) (by decide) rfl (fun (c9 : (S.1 p2) = (-1 : Int32)) => ?_) (fun (c9 : ¬ (S.1 p2) = (-1 : Int32)) => ?_)
  · refine W.s1 (mkF m 18 #[.val (.ref ao), .val (.int xp), .val (.int (S.1 p2))] [(.int (S.1 p2))]) (fun _ kx_ => XS.iloadN X101.here hx rfl (hb hby d11_17) rfl kx_) ?_
    exact W.retI X101 hx hlk Bd.returns (hb hby d11_18) (by show Q11 Z ao xp zb zx zy zf zd zn zp S p2 h0 n0 _ T101.heap _; rw [e101]; refine ⟨rfl, N0, K0, ?_⟩; unfold own_tk; rw [if_pos c9]; exact ⟨ue, ur0, ur1, ur2, ur3, ur4, ur5, ur6, ua0, ua1, ua2, ua3, ua4, ua5, ua6⟩) (by decide) (by decide)
  · refine W.s1 (mkF m 13 #[.val (.ref ao), .val (.int xp), .val (.int (S.1 p2))] [(.ref ao)]) (fun _ kx_ => XS.aloadN X101.here hx rfl (hb hby d11_12) rfl rfl kx_) ?_
    refine W.s1 (mkF m 14 #[.val (.ref ao), .val (.int xp), .val (.int (S.1 p2))] [(.int (S.1 p2)), (.ref ao)]) (fun _ kx_ => XS.iloadN X101.here hx rfl (hb hby d11_13) rfl kx_) ?_
    obtain ⟨t1, t2⟩ := own_tkA hv c9
    have t3 := own_okE t1
    obtain ⟨cq102, kq102, q102a, q102b, q102c⟩ := isOf hZ e101 ue
    obtain ⟨_, _, ⟨T102, L102, k102, n102⟩, -, X102, ⟨Lc102, hQ102, l102, y102, z102⟩, st102⟩ := X101.virtualBack hx (y := (⟨"com/example/stummel/stummel/geometry/PendingCrossings", "cancel", "(I)V"⟩ : MethodName)) (z := (⟨"com/example/stummel/stummel/geometry/PendingCrossings", "cancel", "(I)V"⟩ : MethodName)) hown (mvT hZ (hw _ (List.mem_of_getElem? (i := 63) rfl))) (mvT hZ (hw _ (List.mem_of_getElem? (i := 51) rfl))) (notFace_of_selects (args := #[]) (mvT hZ (hw _ (List.mem_of_getElem? (i := 53) rfl)))) (mvT hZ (hw _ (List.mem_of_getElem? (i := 53) rfl))) (mvT hZ (hw _ (List.mem_of_getElem? (i := 52) rfl))) (by decide) (backOf (W := 0) (rm9 l Z a0 hw [] ao (S.1 p2) zb zx zy zf zd zn zp S (own_ix (S.1 p2)) h0 n0 Z0 H1 ho hge t3.1 t3.2 t2) hZ (hw _ (List.mem_of_getElem? (i := 54) rfl)) (hw _ (List.mem_of_getElem? (i := 8) rfl)) (by decide) (by decide)) q102a q102c (g := (mkF m 14 #[.val (.ref ao), .val (.int xp), .val (.int (S.1 p2))] [(.int (S.1 p2)), (.ref ao)])) rfl (by rw [hml]; rfl) (Steps.refl _) (argsL := [(.int (S.1 p2))]) (rest := []) (lenOf pd_4 rfl) rfl (by show 2 * 0 + _ ≤ _; exact Nat.le_of_eq rfl) (hb hby d11_14) (fun _ _ => ⟨rfl, e101, (by decide : 0 + 0 ≤ _), (by decide : 0 + 0 ≤ _)⟩)
    dsimp only [Pt.U, Pt.locs, Pt.cells, Pt.slots] at X102 l102 y102 z102 st102 hQ102
    subst l102 y102 z102
    obtain ⟨h102, e102⟩ : ∃ z, T102.heap = z := ⟨_, rfl⟩
    rw [e102] at hQ102
    obtain ⟨rfl, Nq102, Kq102, Hn⟩ := hQ102
    have N102 := Fr.app N0 Nq102
    have Z102 : n0 ≤ h102.size := Nat.le_trans Z0 Kq102.1
    have K102 : Keep h0 h102 [zf, zd, zn, zp] := K0.trans Kq102 (allS (Or.inl (List.mem_of_getElem? (i := 0) rfl)) (allS (Or.inl (List.mem_of_getElem? (i := 1) rfl)) (allS (Or.inl (List.mem_of_getElem? (i := 2) rfl)) (allS (Or.inl (List.mem_of_getElem? (i := 3) rfl)) all0))))
    have f103 := ue.keep Kq102
    have f104 := ur0.keep Kq102 (ninS ho.2.2.2.1 (ninS ho.2.2.2.2.1 (ninS ho.2.2.2.2.2.1 (ninS ho.2.2.2.2.2.2.1 nin0))))
    have f105 := ur1.keep Kq102 (ninS ho.2.2.2.1 (ninS ho.2.2.2.2.1 (ninS ho.2.2.2.2.2.1 (ninS ho.2.2.2.2.2.2.1 nin0))))
    have f106 := ur2.keep Kq102 (ninS ho.2.2.2.1 (ninS ho.2.2.2.2.1 (ninS ho.2.2.2.2.2.1 (ninS ho.2.2.2.2.2.2.1 nin0))))
    have f107 := ur3.keep Kq102 (ninS ho.2.2.2.1 (ninS ho.2.2.2.2.1 (ninS ho.2.2.2.2.2.1 (ninS ho.2.2.2.2.2.2.1 nin0))))
    have f108 := ur4.keep Kq102 (ninS ho.2.2.2.1 (ninS ho.2.2.2.2.1 (ninS ho.2.2.2.2.2.1 (ninS ho.2.2.2.2.2.2.1 nin0))))
    have f109 := ur5.keep Kq102 (ninS ho.2.2.2.1 (ninS ho.2.2.2.2.1 (ninS ho.2.2.2.2.2.1 (ninS ho.2.2.2.2.2.2.1 nin0))))
    have f110 := ur6.keep Kq102 (ninS ho.2.2.2.1 (ninS ho.2.2.2.2.1 (ninS ho.2.2.2.2.2.1 (ninS ho.2.2.2.2.2.2.1 nin0))))
    have f111 := ua0.keep Kq102 (ninS ho.2.2.2.2.2.2.2.2.2.1 (ninS ho.2.2.2.2.2.2.2.2.2.2.1 (ninS ho.2.2.2.2.2.2.2.2.2.2.2.1 (ninS ho.2.2.2.2.2.2.2.2.2.2.2.2.1 nin0))))
    have f112 := ua1.keep Kq102 (ninS ho.2.2.2.2.2.2.2.2.2.2.2.2.2.2.1 (ninS ho.2.2.2.2.2.2.2.2.2.2.2.2.2.2.2.1 (ninS ho.2.2.2.2.2.2.2.2.2.2.2.2.2.2.2.2.1 (ninS ho.2.2.2.2.2.2.2.2.2.2.2.2.2.2.2.2.2.1 nin0))))
    have f113 := ua2.keep Kq102 (ninS ho.2.2.2.2.2.2.2.2.2.2.2.2.2.2.2.2.2.2.1 (ninS ho.2.2.2.2.2.2.2.2.2.2.2.2.2.2.2.2.2.2.2.1 (ninS ho.2.2.2.2.2.2.2.2.2.2.2.2.2.2.2.2.2.2.2.2.1 (ninS ho.2.2.2.2.2.2.2.2.2.2.2.2.2.2.2.2.2.2.2.2.2.1 nin0))))
    refine W.s3 (mkF m 17 #[.val (.ref ao), .val (.int xp), .val (.int (S.1 p2))] []) st102 ?_
    refine W.s1 (mkF m 18 #[.val (.ref ao), .val (.int xp), .val (.int (S.1 p2))] [(.int (S.1 p2))]) (fun _ kx_ => XS.iloadN X102.here hx rfl (hb hby d11_17) rfl kx_) ?_
    exact W.retI X102 hx hlk Bd.returns (hb hby d11_18) (by show Q11 Z ao xp zb zx zy zf zd zn zp S p2 h0 n0 _ T102.heap _; rw [e102]; refine ⟨rfl, N102, K102, ?_⟩; unfold own_tk; rw [if_neg c9]; exact Hn) (by decide) (by decide)
theorem ef_10_0 (m : MethodId) (x0 : Addr) (x1 : Int32) (x2 : Addr) : entryFrame m #[(.ref x0), (.int x1), (.ref x2)] 3 = mkF m 0 #[.val (.ref x0), .val (.int x1), .val (.ref x2)] [] := by first | (simp [entryFrame, mkF, argsToLocals, Value.category]; done) | rfl
theorem d10_0 : decode method_5_code 0 = .ok (.aload_n 0, 1) := by decide +kernel
theorem d10_1 : decode method_5_code 1 = .ok (.iload_n 1, 1) := by decide +kernel
theorem d10_2 : decode method_5_code 2 = .ok (.invokevirtual 35, 3) := by decide +kernel
theorem pd_5 : parseMethodDescriptor "(I)I" = some ⟨[.int], some .int⟩ := by decide +kernel
theorem d10_5 : decode method_5_code 5 = .ok (.aload_n 2, 1) := by decide +kernel
theorem d10_6 : decode method_5_code 6 = .ok (.iconst 0, 1) := by decide +kernel
theorem d10_7 : decode method_5_code 7 = .ok (.iaload, 1) := by decide +kernel
theorem d10_8 : decode method_5_code 8 = .ok (.if_icmp .ne 38, 3) := by decide +kernel
theorem d10_11 : decode method_5_code 11 = .ok (.aload_n 0, 1) := by decide +kernel
theorem d10_12 : decode method_5_code 12 = .ok (.iload_n 1, 1) := by decide +kernel
theorem d10_13 : decode method_5_code 13 = .ok (.invokevirtual 35, 3) := by decide +kernel
theorem d10_16 : decode method_5_code 16 = .ok (.aload_n 2, 1) := by decide +kernel
theorem d10_17 : decode method_5_code 17 = .ok (.iconst 1, 1) := by decide +kernel
theorem d10_18 : decode method_5_code 18 = .ok (.iaload, 1) := by decide +kernel
theorem d10_19 : decode method_5_code 19 = .ok (.if_icmp .ne 27, 3) := by decide +kernel
theorem d10_22 : decode method_5_code 22 = .ok (.aload_n 0, 1) := by decide +kernel
theorem d10_23 : decode method_5_code 23 = .ok (.iload_n 1, 1) := by decide +kernel
theorem d10_24 : decode method_5_code 24 = .ok (.invokevirtual 35, 3) := by decide +kernel
theorem d10_27 : decode method_5_code 27 = .ok (.aload_n 2, 1) := by decide +kernel
theorem d10_28 : decode method_5_code 28 = .ok (.iconst 2, 1) := by decide +kernel
theorem d10_29 : decode method_5_code 29 = .ok (.iaload, 1) := by decide +kernel
theorem d10_30 : decode method_5_code 30 = .ok (.if_icmp .ne 16, 3) := by decide +kernel
theorem d10_33 : decode method_5_code 33 = .ok (.aload_n 0, 1) := by decide +kernel
theorem d10_34 : decode method_5_code 34 = .ok (.iload_n 1, 1) := by decide +kernel
theorem d10_35 : decode method_5_code 35 = .ok (.invokevirtual 35, 3) := by decide +kernel
theorem d10_38 : decode method_5_code 38 = .ok (.iconst (-1), 1) := by decide +kernel
theorem d10_39 : decode method_5_code 39 = .ok (.if_icmp .ne 7, 3) := by decide +kernel
theorem d10_42 : decode method_5_code 42 = .ok (.iconst 1, 1) := by decide +kernel
theorem d10_43 : decode method_5_code 43 = .ok (.goto 4, 3) := by decide +kernel
theorem d10_47 : decode method_5_code 47 = .ok (.ireturn, 1) := by decide +kernel
def Q10_0 (Z : State) (ao : Addr) (ae : Addr) (zb : Addr) (zx : Addr) (zy : Addr) (zf : Addr) (zd : Addr) (zn : Addr) (zp : Addr) (S : own_S) (fe : Nat → Int32) (h0 : Heap) (n0 : Nat) (v : Option Value) (h : Heap) (L : List Loc) : Prop := v = some (.int 1) ∧ Fr n0 L ∧ Keep h0 h [zf, zd, zn, zp] ∧ own_PC Z h ao zb zx zy zf zd zn zp (own_dr 0 S)
set_option maxRecDepth 65536 in
set_option maxHeartbeats 40000000 in
theorem rm10_0 (l : Launch) (Z : State) (a0 : Array Value) (hw : ∀ d ∈ tables_1, d.before a0 Z = true) (ws : List Jvm.Cond) (ao : Addr) (ae : Addr) (zb : Addr) (zx : Addr) (zy : Addr) (zf : Addr) (zd : Addr) (zn : Addr) (zp : Addr) (S : own_S) (fe : Nat → Int32) (h0 : Heap) (n0 : Nat) (Z0 : n0 ≤ h0.size) (H0 : own_PC Z h0 ao zb zx zy zf zd zn zp S) (ho : own_ord ao zb zx zy zf zd zn zp) (hge : own_ge n0 ao zb zx zy zf zd zn zp) (Ae : W.AI Z h0 ae .int 3 fe) (ne_ : own_nb ae ao zb zx zy zf zd zn zp) (hv : own_drV 0 S fe = true) :
    MetFree l (⟨"com/example/stummel/stummel/geometry/PendingCrossingsCancelPinLaw", "drains", "(Lcom/example/stummel/stummel/geometry/PendingCrossings;I[I)Z"⟩ : MethodName) (head1 (Jvm.Cond.code (⟨"com/example/stummel/stummel/geometry/PendingCrossingsCancelPinLaw", "drains", "(Lcom/example/stummel/stummel/geometry/PendingCrossings;I[I)Z"⟩ : MethodName) method_5_code 3 (some .boolean) :: ws) ({ frames := 2, cells := 0, slots := 0, locals := 28 } : Room)) (fun a U => a = #[(.ref ao), (.int (0 : Int32)), (.ref ae)] ∧ Z.Warmed39 U.vm ∧ U.heap = h0) (fun _ _ _ _ _ => True) (fun _ U o U' => ∃ v L, o = .returned v ∧ Q10_0 Z ao ae zb zx zy zf zd zn zp S fe h0 n0 v U'.heap L ∧ FrameEnd U o U' L ({ frames := 2, cells := 0, slots := 0, locals := 28 } : Room).cells ({ frames := 2, cells := 0, slots := 0, locals := 28 } : Room).slots) := by
  refine MetFree.of_bodySF (plainFor_of_name pn_0) hisR ?_
  intro p e s m args below meth c s₁ Bd hml0 hP hK
  obtain ⟨rfl, hZ, hh⟩ := hP
  have hx := Bd.exec
  have hby := Bd.bytes
  have hml : c.maxLocals = 3 := hml0
  have hown : s.vm.findClass "com/example/stummel/stummel/geometry/PendingCrossingsCancelPinLaw" = some m.cls := findClass_of_methodNamed Bd.named
  have hnm := (name_of_methodNamed Bd.named Bd.method).1
  have hlk : meth.locks = false := BodyLoose.notSynchronized Bd
  have X0 : Stand p l e ({ frames := 2, cells := 0, slots := 0, locals := 28 } : Room) s m #[(.ref ao), (.int (0 : Int32)), (.ref ae)] below meth c s₁ [] 0 0 := Stand.of_body Bd
  have e0 : s₁.heap = h0 := by rw [← hh, Bd.state]; rfl
  have N0 := Fr.nil n0
  show W.Gl p e below s (Q10_0 Z ao ae zb zx zy zf zd zn zp S fe h0 n0) ({ frames := 2, cells := 0, slots := 0, locals := 28 } : Room).cells ({ frames := 2, cells := 0, slots := 0, locals := 28 } : Room).slots s₁ (entryFrame m #[(.ref ao), (.int (0 : Int32)), (.ref ae)] 3)
  refine W.cast (ef_10_0 m ao (0 : Int32) ae) ?_
  have K0 : Keep h0 h0 [zf, zd, zn, zp] := Keep.refl h0 [zf, zd, zn, zp]
  simp only [own_drV, Bool.and_eq_true, decide_eq_true_eq] at hv
  obtain ⟨w1, r1, w2, r2, w3, r3, w4, r4⟩ := hv
  have Ea : Exa Z h0 ao "com/example/stummel/stummel/geometry/PendingCrossings" := H0.1
  refine W.s1 (mkF m 1 #[.val (.ref ao), .val (.int (0 : Int32)), .val (.ref ae)] [(.ref ao)]) (fun _ kx_ => XS.aloadN X0.here hx rfl (hb hby d10_0) rfl rfl kx_) ?_
  refine W.s1 (mkF m 2 #[.val (.ref ao), .val (.int (0 : Int32)), .val (.ref ae)] [(.int (0 : Int32)), (.ref ao)]) (fun _ kx_ => XS.iloadN X0.here hx rfl (hb hby d10_1) rfl kx_) ?_
  obtain ⟨cq101, kq101, q101a, q101b, q101c⟩ := isOf hZ e0 Ea
  obtain ⟨_, _, ⟨T101, L101, k101, n101⟩, -, X101, ⟨Lc101, hQ101, l101, y101, z101⟩, st101⟩ := X0.virtualBack hx (y := (⟨"com/example/stummel/stummel/geometry/PendingCrossings", "takeDue", "(I)I"⟩ : MethodName)) (z := (⟨"com/example/stummel/stummel/geometry/PendingCrossings", "takeDue", "(I)I"⟩ : MethodName)) hown (mvT hZ (hw _ (List.mem_of_getElem? (i := 58) rfl))) (mvT hZ (hw _ (List.mem_of_getElem? (i := 59) rfl))) (notFace_of_selects (args := #[]) (mvT hZ (hw _ (List.mem_of_getElem? (i := 61) rfl)))) (mvT hZ (hw _ (List.mem_of_getElem? (i := 61) rfl))) (mvT hZ (hw _ (List.mem_of_getElem? (i := 60) rfl))) (by decide) (backOf (W := 0) (rm11 l Z a0 hw [] ao (0 : Int32) zb zx zy zf zd zn zp S 0 h0 n0 Z0 H0 ho hge rfl (by decide) w1) hZ (hw _ (List.mem_of_getElem? (i := 62) rfl)) (hw _ (List.mem_of_getElem? (i := 8) rfl)) (by decide) (by decide)) q101a q101c (g := (mkF m 2 #[.val (.ref ao), .val (.int (0 : Int32)), .val (.ref ae)] [(.int (0 : Int32)), (.ref ao)])) rfl (by rw [hml]; rfl) (Steps.refl _) (argsL := [(.int (0 : Int32))]) (rest := []) (lenOf pd_5 rfl) rfl (by show 2 * 0 + _ ≤ _; exact Nat.le_of_eq rfl) (hb hby d10_2) (fun _ _ => ⟨rfl, e0, (by decide : 0 + 0 ≤ _), (by decide : 0 + 0 ≤ _)⟩)
  dsimp only [Pt.U, Pt.locs, Pt.cells, Pt.slots] at X101 l101 y101 z101 st101 hQ101
  subst l101 y101 z101
  obtain ⟨h101, e101⟩ : ∃ z, T101.heap = z := ⟨_, rfl⟩
  rw [e101] at hQ101
  obtain ⟨rfl, Nq101, Kq101, H101⟩ := hQ101
  have N101 := Fr.app N0 Nq101
  have Z101 : n0 ≤ h101.size := Nat.le_trans Z0 Kq101.1
  have K101 : Keep h0 h101 [zf, zd, zn, zp] := K0.trans Kq101 (allS (Or.inl (List.mem_of_getElem? (i := 0) rfl)) (allS (Or.inl (List.mem_of_getElem? (i := 1) rfl)) (allS (Or.inl (List.mem_of_getElem? (i := 2) rfl)) (allS (Or.inl (List.mem_of_getElem? (i := 3) rfl)) all0))))
  have f102 := Ea.keep Kq101
  have f103 := Ae.keep Kq101 (ninS ne_.2.2.2.2.1 (ninS ne_.2.2.2.2.2.1 (ninS ne_.2.2.2.2.2.2.1 (ninS ne_.2.2.2.2.2.2.2 nin0))))
  refine W.s3 (mkF m 5 #[.val (.ref ao), .val (.int (0 : Int32)), .val (.ref ae)] [(.int (S.1 0))]) st101 ?_
  refine W.s1 (mkF m 6 #[.val (.ref ao), .val (.int (0 : Int32)), .val (.ref ae)] [(.ref ae), (.int (S.1 0))]) (fun _ kx_ => XS.aloadN X101.here hx rfl (hb hby d10_5) rfl rfl kx_) ?_
  refine W.s1 (mkF m 7 #[.val (.ref ao), .val (.int (0 : Int32)), .val (.ref ae)] [(.int (0 : Int32)), (.ref ae), (.int (S.1 0))]) (fun _ kx_ => XS.iconst X101.here hx rfl (hb hby d10_6) kx_) ?_
  refine W.ldi X101 hx hZ e101 f103 0 rfl (by first | decide | simp) (hb hby d10_7) (pc' := 8) rfl ?_
  refine W.icmp X101 hx (hb hby d10_8) (pc' := 46) (pc'' := 11) (by decide) (by decide) rfl (fun (c8 : ¬ (S.1 0) = (fe 0)) => ?_) (fun (c8 : (S.1 0) = (fe 0)) => ?_)
  · exact absurd r1 c8
  · refine W.s1 (mkF m 12 #[.val (.ref ao), .val (.int (0 : Int32)), .val (.ref ae)] [(.ref ao)]) (fun _ kx_ => XS.aloadN X101.here hx rfl (hb hby d10_11) rfl rfl kx_) ?_
    refine W.s1 (mkF m 13 #[.val (.ref ao), .val (.int (0 : Int32)), .val (.ref ae)] [(.int (0 : Int32)), (.ref ao)]) (fun _ kx_ => XS.iloadN X101.here hx rfl (hb hby d10_12) rfl kx_) ?_
    obtain ⟨cq104, kq104, q104a, q104b, q104c⟩ := isOf hZ e101 f102
    obtain ⟨_, _, ⟨T104, L104, k104, n104⟩, -, X104, ⟨Lc104, hQ104, l104, y104, z104⟩, st104⟩ := X101.virtualBack hx (y := (⟨"com/example/stummel/stummel/geometry/PendingCrossings", "takeDue", "(I)I"⟩ : MethodName)) (z := (⟨"com/example/stummel/stummel/geometry/PendingCrossings", "takeDue", "(I)I"⟩ : MethodName)) hown (mvT hZ (hw _ (List.mem_of_getElem? (i := 58) rfl))) (mvT hZ (hw _ (List.mem_of_getElem? (i := 59) rfl))) (notFace_of_selects (args := #[]) (mvT hZ (hw _ (List.mem_of_getElem? (i := 61) rfl)))) (mvT hZ (hw _ (List.mem_of_getElem? (i := 61) rfl))) (mvT hZ (hw _ (List.mem_of_getElem? (i := 60) rfl))) (by decide) (backOf (W := 0) (rm11 l Z a0 hw [] ao (0 : Int32) zb zx zy zf zd zn zp (own_tk 0 S) 0 h101 n0 Z101 H101 ho hge rfl (by decide) w2) hZ (hw _ (List.mem_of_getElem? (i := 62) rfl)) (hw _ (List.mem_of_getElem? (i := 8) rfl)) (by decide) (by decide)) q104a q104c (g := (mkF m 13 #[.val (.ref ao), .val (.int (0 : Int32)), .val (.ref ae)] [(.int (0 : Int32)), (.ref ao)])) rfl (by rw [hml]; rfl) (Steps.refl _) (argsL := [(.int (0 : Int32))]) (rest := []) (lenOf pd_5 rfl) rfl (by show 2 * 0 + _ ≤ _; exact Nat.le_of_eq rfl) (hb hby d10_13) (fun _ _ => ⟨rfl, e101, (by decide : 0 + 0 ≤ _), (by decide : 0 + 0 ≤ _)⟩)
    dsimp only [Pt.U, Pt.locs, Pt.cells, Pt.slots] at X104 l104 y104 z104 st104 hQ104
    subst l104 y104 z104
    obtain ⟨h104, e104⟩ : ∃ z, T104.heap = z := ⟨_, rfl⟩
    rw [e104] at hQ104
    obtain ⟨rfl, Nq104, Kq104, H104⟩ := hQ104
    have N104 := Fr.app N101 Nq104
    have Z104 : n0 ≤ h104.size := Nat.le_trans Z101 Kq104.1
    have K104 : Keep h0 h104 [zf, zd, zn, zp] := K101.trans Kq104 (allS (Or.inl (List.mem_of_getElem? (i := 0) rfl)) (allS (Or.inl (List.mem_of_getElem? (i := 1) rfl)) (allS (Or.inl (List.mem_of_getElem? (i := 2) rfl)) (allS (Or.inl (List.mem_of_getElem? (i := 3) rfl)) all0))))
    have f105 := f102.keep Kq104
    have f106 := f103.keep Kq104 (ninS ne_.2.2.2.2.1 (ninS ne_.2.2.2.2.2.1 (ninS ne_.2.2.2.2.2.2.1 (ninS ne_.2.2.2.2.2.2.2 nin0))))
    refine W.s3 (mkF m 16 #[.val (.ref ao), .val (.int (0 : Int32)), .val (.ref ae)] [(.int ((own_tk 0 S).1 0))]) st104 ?_
    refine W.s1 (mkF m 17 #[.val (.ref ao), .val (.int (0 : Int32)), .val (.ref ae)] [(.ref ae), (.int ((own_tk 0 S).1 0))]) (fun _ kx_ => XS.aloadN X104.here hx rfl (hb hby d10_16) rfl rfl kx_) ?_
    refine W.s1 (mkF m 18 #[.val (.ref ao), .val (.int (0 : Int32)), .val (.ref ae)] [(.int (1 : Int32)), (.ref ae), (.int ((own_tk 0 S).1 0))]) (fun _ kx_ => XS.iconst X104.here hx rfl (hb hby d10_17) kx_) ?_
    refine W.ldi X104 hx hZ e104 f106 1 rfl (by first | decide | simp) (hb hby d10_18) (pc' := 19) rfl ?_
    refine W.icmp X104 hx (hb hby d10_19) (pc' := 46) (pc'' := 22) (by decide) (by decide) rfl (fun (c19 : ¬ ((own_tk 0 S).1 0) = (fe 1)) => ?_) (fun (c19 : ((own_tk 0 S).1 0) = (fe 1)) => ?_)
    · exact absurd r2 c19
    · refine W.s1 (mkF m 23 #[.val (.ref ao), .val (.int (0 : Int32)), .val (.ref ae)] [(.ref ao)]) (fun _ kx_ => XS.aloadN X104.here hx rfl (hb hby d10_22) rfl rfl kx_) ?_
      refine W.s1 (mkF m 24 #[.val (.ref ao), .val (.int (0 : Int32)), .val (.ref ae)] [(.int (0 : Int32)), (.ref ao)]) (fun _ kx_ => XS.iloadN X104.here hx rfl (hb hby d10_23) rfl kx_) ?_
      obtain ⟨cq107, kq107, q107a, q107b, q107c⟩ := isOf hZ e104 f105
      obtain ⟨_, _, ⟨T107, L107, k107, n107⟩, -, X107, ⟨Lc107, hQ107, l107, y107, z107⟩, st107⟩ := X104.virtualBack hx (y := (⟨"com/example/stummel/stummel/geometry/PendingCrossings", "takeDue", "(I)I"⟩ : MethodName)) (z := (⟨"com/example/stummel/stummel/geometry/PendingCrossings", "takeDue", "(I)I"⟩ : MethodName)) hown (mvT hZ (hw _ (List.mem_of_getElem? (i := 58) rfl))) (mvT hZ (hw _ (List.mem_of_getElem? (i := 59) rfl))) (notFace_of_selects (args := #[]) (mvT hZ (hw _ (List.mem_of_getElem? (i := 61) rfl)))) (mvT hZ (hw _ (List.mem_of_getElem? (i := 61) rfl))) (mvT hZ (hw _ (List.mem_of_getElem? (i := 60) rfl))) (by decide) (backOf (W := 0) (rm11 l Z a0 hw [] ao (0 : Int32) zb zx zy zf zd zn zp (own_tk 0 (own_tk 0 S)) 0 h104 n0 Z104 H104 ho hge rfl (by decide) w3) hZ (hw _ (List.mem_of_getElem? (i := 62) rfl)) (hw _ (List.mem_of_getElem? (i := 8) rfl)) (by decide) (by decide)) q107a q107c (g := (mkF m 24 #[.val (.ref ao), .val (.int (0 : Int32)), .val (.ref ae)] [(.int (0 : Int32)), (.ref ao)])) rfl (by rw [hml]; rfl) (Steps.refl _) (argsL := [(.int (0 : Int32))]) (rest := []) (lenOf pd_5 rfl) rfl (by show 2 * 0 + _ ≤ _; exact Nat.le_of_eq rfl) (hb hby d10_24) (fun _ _ => ⟨rfl, e104, (by decide : 0 + 0 ≤ _), (by decide : 0 + 0 ≤ _)⟩)
      dsimp only [Pt.U, Pt.locs, Pt.cells, Pt.slots] at X107 l107 y107 z107 st107 hQ107
      subst l107 y107 z107
      obtain ⟨h107, e107⟩ : ∃ z, T107.heap = z := ⟨_, rfl⟩
      rw [e107] at hQ107
      obtain ⟨rfl, Nq107, Kq107, H107⟩ := hQ107
      have N107 := Fr.app N104 Nq107
      have Z107 : n0 ≤ h107.size := Nat.le_trans Z104 Kq107.1
      have K107 : Keep h0 h107 [zf, zd, zn, zp] := K104.trans Kq107 (allS (Or.inl (List.mem_of_getElem? (i := 0) rfl)) (allS (Or.inl (List.mem_of_getElem? (i := 1) rfl)) (allS (Or.inl (List.mem_of_getElem? (i := 2) rfl)) (allS (Or.inl (List.mem_of_getElem? (i := 3) rfl)) all0))))
      have f108 := f105.keep Kq107
      have f109 := f106.keep Kq107 (ninS ne_.2.2.2.2.1 (ninS ne_.2.2.2.2.2.1 (ninS ne_.2.2.2.2.2.2.1 (ninS ne_.2.2.2.2.2.2.2 nin0))))
      refine W.s3 (mkF m 27 #[.val (.ref ao), .val (.int (0 : Int32)), .val (.ref ae)] [(.int ((own_tk 0 (own_tk 0 S)).1 0))]) st107 ?_
      refine W.s1 (mkF m 28 #[.val (.ref ao), .val (.int (0 : Int32)), .val (.ref ae)] [(.ref ae), (.int ((own_tk 0 (own_tk 0 S)).1 0))]) (fun _ kx_ => XS.aloadN X107.here hx rfl (hb hby d10_27) rfl rfl kx_) ?_
      refine W.s1 (mkF m 29 #[.val (.ref ao), .val (.int (0 : Int32)), .val (.ref ae)] [(.int (2 : Int32)), (.ref ae), (.int ((own_tk 0 (own_tk 0 S)).1 0))]) (fun _ kx_ => XS.iconst X107.here hx rfl (hb hby d10_28) kx_) ?_
      refine W.ldi X107 hx hZ e107 f109 2 rfl (by first | decide | simp) (hb hby d10_29) (pc' := 30) rfl ?_
      refine W.icmp X107 hx (hb hby d10_30) (pc' := 46) (pc'' := 33) (by decide) (by decide) rfl (fun (c30 : ¬ ((own_tk 0 (own_tk 0 S)).1 0) = (fe 2)) => ?_) (fun (c30 : ((own_tk 0 (own_tk 0 S)).1 0) = (fe 2)) => ?_)
      · exact absurd r3 c30
      · refine W.s1 (mkF m 34 #[.val (.ref ao), .val (.int (0 : Int32)), .val (.ref ae)] [(.ref ao)]) (fun _ kx_ => XS.aloadN X107.here hx rfl (hb hby d10_33) rfl rfl kx_) ?_
        refine W.s1 (mkF m 35 #[.val (.ref ao), .val (.int (0 : Int32)), .val (.ref ae)] [(.int (0 : Int32)), (.ref ao)]) (fun _ kx_ => XS.iloadN X107.here hx rfl (hb hby d10_34) rfl kx_) ?_
        obtain ⟨cq110, kq110, q110a, q110b, q110c⟩ := isOf hZ e107 f108
        obtain ⟨_, _, ⟨T110, L110, k110, n110⟩, -, X110, ⟨Lc110, hQ110, l110, y110, z110⟩, st110⟩ := X107.virtualBack hx (y := (⟨"com/example/stummel/stummel/geometry/PendingCrossings", "takeDue", "(I)I"⟩ : MethodName)) (z := (⟨"com/example/stummel/stummel/geometry/PendingCrossings", "takeDue", "(I)I"⟩ : MethodName)) hown (mvT hZ (hw _ (List.mem_of_getElem? (i := 58) rfl))) (mvT hZ (hw _ (List.mem_of_getElem? (i := 59) rfl))) (notFace_of_selects (args := #[]) (mvT hZ (hw _ (List.mem_of_getElem? (i := 61) rfl)))) (mvT hZ (hw _ (List.mem_of_getElem? (i := 61) rfl))) (mvT hZ (hw _ (List.mem_of_getElem? (i := 60) rfl))) (by decide) (backOf (W := 0) (rm11 l Z a0 hw [] ao (0 : Int32) zb zx zy zf zd zn zp (own_tk 0 (own_tk 0 (own_tk 0 S))) 0 h107 n0 Z107 H107 ho hge rfl (by decide) w4) hZ (hw _ (List.mem_of_getElem? (i := 62) rfl)) (hw _ (List.mem_of_getElem? (i := 8) rfl)) (by decide) (by decide)) q110a q110c (g := (mkF m 35 #[.val (.ref ao), .val (.int (0 : Int32)), .val (.ref ae)] [(.int (0 : Int32)), (.ref ao)])) rfl (by rw [hml]; rfl) (Steps.refl _) (argsL := [(.int (0 : Int32))]) (rest := []) (lenOf pd_5 rfl) rfl (by show 2 * 0 + _ ≤ _; exact Nat.le_of_eq rfl) (hb hby d10_35) (fun _ _ => ⟨rfl, e107, (by decide : 0 + 0 ≤ _), (by decide : 0 + 0 ≤ _)⟩)
        dsimp only [Pt.U, Pt.locs, Pt.cells, Pt.slots] at X110 l110 y110 z110 st110 hQ110
        subst l110 y110 z110
        obtain ⟨h110, e110⟩ : ∃ z, T110.heap = z := ⟨_, rfl⟩
        rw [e110] at hQ110
        obtain ⟨rfl, Nq110, Kq110, H110⟩ := hQ110
        have N110 := Fr.app N107 Nq110
        have Z110 : n0 ≤ h110.size := Nat.le_trans Z107 Kq110.1
        have K110 : Keep h0 h110 [zf, zd, zn, zp] := K107.trans Kq110 (allS (Or.inl (List.mem_of_getElem? (i := 0) rfl)) (allS (Or.inl (List.mem_of_getElem? (i := 1) rfl)) (allS (Or.inl (List.mem_of_getElem? (i := 2) rfl)) (allS (Or.inl (List.mem_of_getElem? (i := 3) rfl)) all0))))
        have f111 := f108.keep Kq110
        have f112 := f109.keep Kq110 (ninS ne_.2.2.2.2.1 (ninS ne_.2.2.2.2.2.1 (ninS ne_.2.2.2.2.2.2.1 (ninS ne_.2.2.2.2.2.2.2 nin0))))
        refine W.s3 (mkF m 38 #[.val (.ref ao), .val (.int (0 : Int32)), .val (.ref ae)] [(.int ((own_tk 0 (own_tk 0 (own_tk 0 S))).1 0))]) st110 ?_
        refine W.s1 (mkF m 39 #[.val (.ref ao), .val (.int (0 : Int32)), .val (.ref ae)] [(.int (-1 : Int32)), (.int ((own_tk 0 (own_tk 0 (own_tk 0 S))).1 0))]) (fun _ kx_ => XS.iconst X110.here hx rfl (hb hby d10_38) kx_) ?_
        refine W.icmp X110 hx (hb hby d10_39) (pc' := 46) (pc'' := 42) (by decide) (by decide) rfl (fun (c39 : ¬ ((own_tk 0 (own_tk 0 (own_tk 0 S))).1 0) = (-1 : Int32)) => ?_) (fun (c39 : ((own_tk 0 (own_tk 0 (own_tk 0 S))).1 0) = (-1 : Int32)) => ?_)
        · exact absurd r4 c39
        · refine W.s1 (mkF m 43 #[.val (.ref ao), .val (.int (0 : Int32)), .val (.ref ae)] [(.int (1 : Int32))]) (fun _ kx_ => XS.iconst X110.here hx rfl (hb hby d10_42) kx_) ?_
          refine W.s1 (mkF m 47 #[.val (.ref ao), .val (.int (0 : Int32)), .val (.ref ae)] [(.int (1 : Int32))]) (fun _ kx_ => XS.goto X110.here hx rfl (pc0 := 43) (pc' := 47) rfl (hb hby d10_43) (by decide) (by decide) kx_) ?_
          exact W.retZ X110 hx hlk (t := .boolean) (z' := (1 : Int32)) Bd.returns (by simp) (hb hby d10_47) rfl (by show Q10_0 Z ao ae zb zx zy zf zd zn zp S fe h0 n0 _ T110.heap _; rw [e110]; exact ⟨rfl, N110, K110, H110⟩) (by decide) (by decide)
theorem ef_10_1 (m : MethodId) (x0 : Addr) (x1 : Int32) (x2 : Addr) : entryFrame m #[(.ref x0), (.int x1), (.ref x2)] 3 = mkF m 0 #[.val (.ref x0), .val (.int x1), .val (.ref x2)] [] := by first | (simp [entryFrame, mkF, argsToLocals, Value.category]; done) | rfl
def Q10_1 (Z : State) (ao : Addr) (ae : Addr) (zb : Addr) (zx : Addr) (zy : Addr) (zf : Addr) (zd : Addr) (zn : Addr) (zp : Addr) (S : own_S) (fe : Nat → Int32) (h0 : Heap) (n0 : Nat) (v : Option Value) (h : Heap) (L : List Loc) : Prop := v = some (.int 1) ∧ Fr n0 L ∧ Keep h0 h [zf, zd, zn, zp] ∧ own_PC Z h ao zb zx zy zf zd zn zp (own_dr 1 S)
set_option maxRecDepth 65536 in
set_option maxHeartbeats 40000000 in
theorem rm10_1 (l : Launch) (Z : State) (a0 : Array Value) (hw : ∀ d ∈ tables_1, d.before a0 Z = true) (ws : List Jvm.Cond) (ao : Addr) (ae : Addr) (zb : Addr) (zx : Addr) (zy : Addr) (zf : Addr) (zd : Addr) (zn : Addr) (zp : Addr) (S : own_S) (fe : Nat → Int32) (h0 : Heap) (n0 : Nat) (Z0 : n0 ≤ h0.size) (H0 : own_PC Z h0 ao zb zx zy zf zd zn zp S) (ho : own_ord ao zb zx zy zf zd zn zp) (hge : own_ge n0 ao zb zx zy zf zd zn zp) (Ae : W.AI Z h0 ae .int 3 fe) (ne_ : own_nb ae ao zb zx zy zf zd zn zp) (hv : own_drV 1 S fe = true) :
    MetFree l (⟨"com/example/stummel/stummel/geometry/PendingCrossingsCancelPinLaw", "drains", "(Lcom/example/stummel/stummel/geometry/PendingCrossings;I[I)Z"⟩ : MethodName) (head1 (Jvm.Cond.code (⟨"com/example/stummel/stummel/geometry/PendingCrossingsCancelPinLaw", "drains", "(Lcom/example/stummel/stummel/geometry/PendingCrossings;I[I)Z"⟩ : MethodName) method_5_code 3 (some .boolean) :: ws) ({ frames := 2, cells := 0, slots := 0, locals := 28 } : Room)) (fun a U => a = #[(.ref ao), (.int (1 : Int32)), (.ref ae)] ∧ Z.Warmed39 U.vm ∧ U.heap = h0) (fun _ _ _ _ _ => True) (fun _ U o U' => ∃ v L, o = .returned v ∧ Q10_1 Z ao ae zb zx zy zf zd zn zp S fe h0 n0 v U'.heap L ∧ FrameEnd U o U' L ({ frames := 2, cells := 0, slots := 0, locals := 28 } : Room).cells ({ frames := 2, cells := 0, slots := 0, locals := 28 } : Room).slots) := by
  refine MetFree.of_bodySF (plainFor_of_name pn_0) hisR ?_
  intro p e s m args below meth c s₁ Bd hml0 hP hK
  obtain ⟨rfl, hZ, hh⟩ := hP
  have hx := Bd.exec
  have hby := Bd.bytes
  have hml : c.maxLocals = 3 := hml0
  have hown : s.vm.findClass "com/example/stummel/stummel/geometry/PendingCrossingsCancelPinLaw" = some m.cls := findClass_of_methodNamed Bd.named
  have hnm := (name_of_methodNamed Bd.named Bd.method).1
  have hlk : meth.locks = false := BodyLoose.notSynchronized Bd
  have X0 : Stand p l e ({ frames := 2, cells := 0, slots := 0, locals := 28 } : Room) s m #[(.ref ao), (.int (1 : Int32)), (.ref ae)] below meth c s₁ [] 0 0 := Stand.of_body Bd
  have e0 : s₁.heap = h0 := by rw [← hh, Bd.state]; rfl
  have N0 := Fr.nil n0
  show W.Gl p e below s (Q10_1 Z ao ae zb zx zy zf zd zn zp S fe h0 n0) ({ frames := 2, cells := 0, slots := 0, locals := 28 } : Room).cells ({ frames := 2, cells := 0, slots := 0, locals := 28 } : Room).slots s₁ (entryFrame m #[(.ref ao), (.int (1 : Int32)), (.ref ae)] 3)
  refine W.cast (ef_10_1 m ao (1 : Int32) ae) ?_
  have K0 : Keep h0 h0 [zf, zd, zn, zp] := Keep.refl h0 [zf, zd, zn, zp]
  simp only [own_drV, Bool.and_eq_true, decide_eq_true_eq] at hv
  obtain ⟨w1, r1, w2, r2, w3, r3, w4, r4⟩ := hv
  have Ea : Exa Z h0 ao "com/example/stummel/stummel/geometry/PendingCrossings" := H0.1
  refine W.s1 (mkF m 1 #[.val (.ref ao), .val (.int (1 : Int32)), .val (.ref ae)] [(.ref ao)]) (fun _ kx_ => XS.aloadN X0.here hx rfl (hb hby d10_0) rfl rfl kx_) ?_
  refine W.s1 (mkF m 2 #[.val (.ref ao), .val (.int (1 : Int32)), .val (.ref ae)] [(.int (1 : Int32)), (.ref ao)]) (fun _ kx_ => XS.iloadN X0.here hx rfl (hb hby d10_1) rfl kx_) ?_
  obtain ⟨cq101, kq101, q101a, q101b, q101c⟩ := isOf hZ e0 Ea
  obtain ⟨_, _, ⟨T101, L101, k101, n101⟩, -, X101, ⟨Lc101, hQ101, l101, y101, z101⟩, st101⟩ := X0.virtualBack hx (y := (⟨"com/example/stummel/stummel/geometry/PendingCrossings", "takeDue", "(I)I"⟩ : MethodName)) (z := (⟨"com/example/stummel/stummel/geometry/PendingCrossings", "takeDue", "(I)I"⟩ : MethodName)) hown (mvT hZ (hw _ (List.mem_of_getElem? (i := 58) rfl))) (mvT hZ (hw _ (List.mem_of_getElem? (i := 59) rfl))) (notFace_of_selects (args := #[]) (mvT hZ (hw _ (List.mem_of_getElem? (i := 61) rfl)))) (mvT hZ (hw _ (List.mem_of_getElem? (i := 61) rfl))) (mvT hZ (hw _ (List.mem_of_getElem? (i := 60) rfl))) (by decide) (backOf (W := 0) (rm11 l Z a0 hw [] ao (1 : Int32) zb zx zy zf zd zn zp S 1 h0 n0 Z0 H0 ho hge rfl (by decide) w1) hZ (hw _ (List.mem_of_getElem? (i := 62) rfl)) (hw _ (List.mem_of_getElem? (i := 8) rfl)) (by decide) (by decide)) q101a q101c (g := (mkF m 2 #[.val (.ref ao), .val (.int (1 : Int32)), .val (.ref ae)] [(.int (1 : Int32)), (.ref ao)])) rfl (by rw [hml]; rfl) (Steps.refl _) (argsL := [(.int (1 : Int32))]) (rest := []) (lenOf pd_5 rfl) rfl (by show 2 * 0 + _ ≤ _; exact Nat.le_of_eq rfl) (hb hby d10_2) (fun _ _ => ⟨rfl, e0, (by decide : 0 + 0 ≤ _), (by decide : 0 + 0 ≤ _)⟩)
  dsimp only [Pt.U, Pt.locs, Pt.cells, Pt.slots] at X101 l101 y101 z101 st101 hQ101
  subst l101 y101 z101
  obtain ⟨h101, e101⟩ : ∃ z, T101.heap = z := ⟨_, rfl⟩
  rw [e101] at hQ101
  obtain ⟨rfl, Nq101, Kq101, H101⟩ := hQ101
  have N101 := Fr.app N0 Nq101
  have Z101 : n0 ≤ h101.size := Nat.le_trans Z0 Kq101.1
  have K101 : Keep h0 h101 [zf, zd, zn, zp] := K0.trans Kq101 (allS (Or.inl (List.mem_of_getElem? (i := 0) rfl)) (allS (Or.inl (List.mem_of_getElem? (i := 1) rfl)) (allS (Or.inl (List.mem_of_getElem? (i := 2) rfl)) (allS (Or.inl (List.mem_of_getElem? (i := 3) rfl)) all0))))
  have f102 := Ea.keep Kq101
  have f103 := Ae.keep Kq101 (ninS ne_.2.2.2.2.1 (ninS ne_.2.2.2.2.2.1 (ninS ne_.2.2.2.2.2.2.1 (ninS ne_.2.2.2.2.2.2.2 nin0))))
  refine W.s3 (mkF m 5 #[.val (.ref ao), .val (.int (1 : Int32)), .val (.ref ae)] [(.int (S.1 1))]) st101 ?_
  refine W.s1 (mkF m 6 #[.val (.ref ao), .val (.int (1 : Int32)), .val (.ref ae)] [(.ref ae), (.int (S.1 1))]) (fun _ kx_ => XS.aloadN X101.here hx rfl (hb hby d10_5) rfl rfl kx_) ?_
  refine W.s1 (mkF m 7 #[.val (.ref ao), .val (.int (1 : Int32)), .val (.ref ae)] [(.int (0 : Int32)), (.ref ae), (.int (S.1 1))]) (fun _ kx_ => XS.iconst X101.here hx rfl (hb hby d10_6) kx_) ?_
  refine W.ldi X101 hx hZ e101 f103 0 rfl (by first | decide | simp) (hb hby d10_7) (pc' := 8) rfl ?_
  refine W.icmp X101 hx (hb hby d10_8) (pc' := 46) (pc'' := 11) (by decide) (by decide) rfl (fun (c8 : ¬ (S.1 1) = (fe 0)) => ?_) (fun (c8 : (S.1 1) = (fe 0)) => ?_)
  · exact absurd r1 c8
  · refine W.s1 (mkF m 12 #[.val (.ref ao), .val (.int (1 : Int32)), .val (.ref ae)] [(.ref ao)]) (fun _ kx_ => XS.aloadN X101.here hx rfl (hb hby d10_11) rfl rfl kx_) ?_
    refine W.s1 (mkF m 13 #[.val (.ref ao), .val (.int (1 : Int32)), .val (.ref ae)] [(.int (1 : Int32)), (.ref ao)]) (fun _ kx_ => XS.iloadN X101.here hx rfl (hb hby d10_12) rfl kx_) ?_
    obtain ⟨cq104, kq104, q104a, q104b, q104c⟩ := isOf hZ e101 f102
    obtain ⟨_, _, ⟨T104, L104, k104, n104⟩, -, X104, ⟨Lc104, hQ104, l104, y104, z104⟩, st104⟩ := X101.virtualBack hx (y := (⟨"com/example/stummel/stummel/geometry/PendingCrossings", "takeDue", "(I)I"⟩ : MethodName)) (z := (⟨"com/example/stummel/stummel/geometry/PendingCrossings", "takeDue", "(I)I"⟩ : MethodName)) hown (mvT hZ (hw _ (List.mem_of_getElem? (i := 58) rfl))) (mvT hZ (hw _ (List.mem_of_getElem? (i := 59) rfl))) (notFace_of_selects (args := #[]) (mvT hZ (hw _ (List.mem_of_getElem? (i := 61) rfl)))) (mvT hZ (hw _ (List.mem_of_getElem? (i := 61) rfl))) (mvT hZ (hw _ (List.mem_of_getElem? (i := 60) rfl))) (by decide) (backOf (W := 0) (rm11 l Z a0 hw [] ao (1 : Int32) zb zx zy zf zd zn zp (own_tk 1 S) 1 h101 n0 Z101 H101 ho hge rfl (by decide) w2) hZ (hw _ (List.mem_of_getElem? (i := 62) rfl)) (hw _ (List.mem_of_getElem? (i := 8) rfl)) (by decide) (by decide)) q104a q104c (g := (mkF m 13 #[.val (.ref ao), .val (.int (1 : Int32)), .val (.ref ae)] [(.int (1 : Int32)), (.ref ao)])) rfl (by rw [hml]; rfl) (Steps.refl _) (argsL := [(.int (1 : Int32))]) (rest := []) (lenOf pd_5 rfl) rfl (by show 2 * 0 + _ ≤ _; exact Nat.le_of_eq rfl) (hb hby d10_13) (fun _ _ => ⟨rfl, e101, (by decide : 0 + 0 ≤ _), (by decide : 0 + 0 ≤ _)⟩)
    dsimp only [Pt.U, Pt.locs, Pt.cells, Pt.slots] at X104 l104 y104 z104 st104 hQ104
    subst l104 y104 z104
    obtain ⟨h104, e104⟩ : ∃ z, T104.heap = z := ⟨_, rfl⟩
    rw [e104] at hQ104
    obtain ⟨rfl, Nq104, Kq104, H104⟩ := hQ104
    have N104 := Fr.app N101 Nq104
    have Z104 : n0 ≤ h104.size := Nat.le_trans Z101 Kq104.1
    have K104 : Keep h0 h104 [zf, zd, zn, zp] := K101.trans Kq104 (allS (Or.inl (List.mem_of_getElem? (i := 0) rfl)) (allS (Or.inl (List.mem_of_getElem? (i := 1) rfl)) (allS (Or.inl (List.mem_of_getElem? (i := 2) rfl)) (allS (Or.inl (List.mem_of_getElem? (i := 3) rfl)) all0))))
    have f105 := f102.keep Kq104
    have f106 := f103.keep Kq104 (ninS ne_.2.2.2.2.1 (ninS ne_.2.2.2.2.2.1 (ninS ne_.2.2.2.2.2.2.1 (ninS ne_.2.2.2.2.2.2.2 nin0))))
    refine W.s3 (mkF m 16 #[.val (.ref ao), .val (.int (1 : Int32)), .val (.ref ae)] [(.int ((own_tk 1 S).1 1))]) st104 ?_
    refine W.s1 (mkF m 17 #[.val (.ref ao), .val (.int (1 : Int32)), .val (.ref ae)] [(.ref ae), (.int ((own_tk 1 S).1 1))]) (fun _ kx_ => XS.aloadN X104.here hx rfl (hb hby d10_16) rfl rfl kx_) ?_
    refine W.s1 (mkF m 18 #[.val (.ref ao), .val (.int (1 : Int32)), .val (.ref ae)] [(.int (1 : Int32)), (.ref ae), (.int ((own_tk 1 S).1 1))]) (fun _ kx_ => XS.iconst X104.here hx rfl (hb hby d10_17) kx_) ?_
    refine W.ldi X104 hx hZ e104 f106 1 rfl (by first | decide | simp) (hb hby d10_18) (pc' := 19) rfl ?_
    refine W.icmp X104 hx (hb hby d10_19) (pc' := 46) (pc'' := 22) (by decide) (by decide) rfl (fun (c19 : ¬ ((own_tk 1 S).1 1) = (fe 1)) => ?_) (fun (c19 : ((own_tk 1 S).1 1) = (fe 1)) => ?_)
    · exact absurd r2 c19
    · refine W.s1 (mkF m 23 #[.val (.ref ao), .val (.int (1 : Int32)), .val (.ref ae)] [(.ref ao)]) (fun _ kx_ => XS.aloadN X104.here hx rfl (hb hby d10_22) rfl rfl kx_) ?_
      refine W.s1 (mkF m 24 #[.val (.ref ao), .val (.int (1 : Int32)), .val (.ref ae)] [(.int (1 : Int32)), (.ref ao)]) (fun _ kx_ => XS.iloadN X104.here hx rfl (hb hby d10_23) rfl kx_) ?_
      obtain ⟨cq107, kq107, q107a, q107b, q107c⟩ := isOf hZ e104 f105
      obtain ⟨_, _, ⟨T107, L107, k107, n107⟩, -, X107, ⟨Lc107, hQ107, l107, y107, z107⟩, st107⟩ := X104.virtualBack hx (y := (⟨"com/example/stummel/stummel/geometry/PendingCrossings", "takeDue", "(I)I"⟩ : MethodName)) (z := (⟨"com/example/stummel/stummel/geometry/PendingCrossings", "takeDue", "(I)I"⟩ : MethodName)) hown (mvT hZ (hw _ (List.mem_of_getElem? (i := 58) rfl))) (mvT hZ (hw _ (List.mem_of_getElem? (i := 59) rfl))) (notFace_of_selects (args := #[]) (mvT hZ (hw _ (List.mem_of_getElem? (i := 61) rfl)))) (mvT hZ (hw _ (List.mem_of_getElem? (i := 61) rfl))) (mvT hZ (hw _ (List.mem_of_getElem? (i := 60) rfl))) (by decide) (backOf (W := 0) (rm11 l Z a0 hw [] ao (1 : Int32) zb zx zy zf zd zn zp (own_tk 1 (own_tk 1 S)) 1 h104 n0 Z104 H104 ho hge rfl (by decide) w3) hZ (hw _ (List.mem_of_getElem? (i := 62) rfl)) (hw _ (List.mem_of_getElem? (i := 8) rfl)) (by decide) (by decide)) q107a q107c (g := (mkF m 24 #[.val (.ref ao), .val (.int (1 : Int32)), .val (.ref ae)] [(.int (1 : Int32)), (.ref ao)])) rfl (by rw [hml]; rfl) (Steps.refl _) (argsL := [(.int (1 : Int32))]) (rest := []) (lenOf pd_5 rfl) rfl (by show 2 * 0 + _ ≤ _; exact Nat.le_of_eq rfl) (hb hby d10_24) (fun _ _ => ⟨rfl, e104, (by decide : 0 + 0 ≤ _), (by decide : 0 + 0 ≤ _)⟩)
      dsimp only [Pt.U, Pt.locs, Pt.cells, Pt.slots] at X107 l107 y107 z107 st107 hQ107
      subst l107 y107 z107
      obtain ⟨h107, e107⟩ : ∃ z, T107.heap = z := ⟨_, rfl⟩
      rw [e107] at hQ107
      obtain ⟨rfl, Nq107, Kq107, H107⟩ := hQ107
      have N107 := Fr.app N104 Nq107
      have Z107 : n0 ≤ h107.size := Nat.le_trans Z104 Kq107.1
      have K107 : Keep h0 h107 [zf, zd, zn, zp] := K104.trans Kq107 (allS (Or.inl (List.mem_of_getElem? (i := 0) rfl)) (allS (Or.inl (List.mem_of_getElem? (i := 1) rfl)) (allS (Or.inl (List.mem_of_getElem? (i := 2) rfl)) (allS (Or.inl (List.mem_of_getElem? (i := 3) rfl)) all0))))
      have f108 := f105.keep Kq107
      have f109 := f106.keep Kq107 (ninS ne_.2.2.2.2.1 (ninS ne_.2.2.2.2.2.1 (ninS ne_.2.2.2.2.2.2.1 (ninS ne_.2.2.2.2.2.2.2 nin0))))
      refine W.s3 (mkF m 27 #[.val (.ref ao), .val (.int (1 : Int32)), .val (.ref ae)] [(.int ((own_tk 1 (own_tk 1 S)).1 1))]) st107 ?_
      refine W.s1 (mkF m 28 #[.val (.ref ao), .val (.int (1 : Int32)), .val (.ref ae)] [(.ref ae), (.int ((own_tk 1 (own_tk 1 S)).1 1))]) (fun _ kx_ => XS.aloadN X107.here hx rfl (hb hby d10_27) rfl rfl kx_) ?_
      refine W.s1 (mkF m 29 #[.val (.ref ao), .val (.int (1 : Int32)), .val (.ref ae)] [(.int (2 : Int32)), (.ref ae), (.int ((own_tk 1 (own_tk 1 S)).1 1))]) (fun _ kx_ => XS.iconst X107.here hx rfl (hb hby d10_28) kx_) ?_
      refine W.ldi X107 hx hZ e107 f109 2 rfl (by first | decide | simp) (hb hby d10_29) (pc' := 30) rfl ?_
      refine W.icmp X107 hx (hb hby d10_30) (pc' := 46) (pc'' := 33) (by decide) (by decide) rfl (fun (c30 : ¬ ((own_tk 1 (own_tk 1 S)).1 1) = (fe 2)) => ?_) (fun (c30 : ((own_tk 1 (own_tk 1 S)).1 1) = (fe 2)) => ?_)
      · exact absurd r3 c30
      · refine W.s1 (mkF m 34 #[.val (.ref ao), .val (.int (1 : Int32)), .val (.ref ae)] [(.ref ao)]) (fun _ kx_ => XS.aloadN X107.here hx rfl (hb hby d10_33) rfl rfl kx_) ?_
        refine W.s1 (mkF m 35 #[.val (.ref ao), .val (.int (1 : Int32)), .val (.ref ae)] [(.int (1 : Int32)), (.ref ao)]) (fun _ kx_ => XS.iloadN X107.here hx rfl (hb hby d10_34) rfl kx_) ?_
        obtain ⟨cq110, kq110, q110a, q110b, q110c⟩ := isOf hZ e107 f108
        obtain ⟨_, _, ⟨T110, L110, k110, n110⟩, -, X110, ⟨Lc110, hQ110, l110, y110, z110⟩, st110⟩ := X107.virtualBack hx (y := (⟨"com/example/stummel/stummel/geometry/PendingCrossings", "takeDue", "(I)I"⟩ : MethodName)) (z := (⟨"com/example/stummel/stummel/geometry/PendingCrossings", "takeDue", "(I)I"⟩ : MethodName)) hown (mvT hZ (hw _ (List.mem_of_getElem? (i := 58) rfl))) (mvT hZ (hw _ (List.mem_of_getElem? (i := 59) rfl))) (notFace_of_selects (args := #[]) (mvT hZ (hw _ (List.mem_of_getElem? (i := 61) rfl)))) (mvT hZ (hw _ (List.mem_of_getElem? (i := 61) rfl))) (mvT hZ (hw _ (List.mem_of_getElem? (i := 60) rfl))) (by decide) (backOf (W := 0) (rm11 l Z a0 hw [] ao (1 : Int32) zb zx zy zf zd zn zp (own_tk 1 (own_tk 1 (own_tk 1 S))) 1 h107 n0 Z107 H107 ho hge rfl (by decide) w4) hZ (hw _ (List.mem_of_getElem? (i := 62) rfl)) (hw _ (List.mem_of_getElem? (i := 8) rfl)) (by decide) (by decide)) q110a q110c (g := (mkF m 35 #[.val (.ref ao), .val (.int (1 : Int32)), .val (.ref ae)] [(.int (1 : Int32)), (.ref ao)])) rfl (by rw [hml]; rfl) (Steps.refl _) (argsL := [(.int (1 : Int32))]) (rest := []) (lenOf pd_5 rfl) rfl (by show 2 * 0 + _ ≤ _; exact Nat.le_of_eq rfl) (hb hby d10_35) (fun _ _ => ⟨rfl, e107, (by decide : 0 + 0 ≤ _), (by decide : 0 + 0 ≤ _)⟩)
        dsimp only [Pt.U, Pt.locs, Pt.cells, Pt.slots] at X110 l110 y110 z110 st110 hQ110
        subst l110 y110 z110
        obtain ⟨h110, e110⟩ : ∃ z, T110.heap = z := ⟨_, rfl⟩
        rw [e110] at hQ110
        obtain ⟨rfl, Nq110, Kq110, H110⟩ := hQ110
        have N110 := Fr.app N107 Nq110
        have Z110 : n0 ≤ h110.size := Nat.le_trans Z107 Kq110.1
        have K110 : Keep h0 h110 [zf, zd, zn, zp] := K107.trans Kq110 (allS (Or.inl (List.mem_of_getElem? (i := 0) rfl)) (allS (Or.inl (List.mem_of_getElem? (i := 1) rfl)) (allS (Or.inl (List.mem_of_getElem? (i := 2) rfl)) (allS (Or.inl (List.mem_of_getElem? (i := 3) rfl)) all0))))
        have f111 := f108.keep Kq110
        have f112 := f109.keep Kq110 (ninS ne_.2.2.2.2.1 (ninS ne_.2.2.2.2.2.1 (ninS ne_.2.2.2.2.2.2.1 (ninS ne_.2.2.2.2.2.2.2 nin0))))
        refine W.s3 (mkF m 38 #[.val (.ref ao), .val (.int (1 : Int32)), .val (.ref ae)] [(.int ((own_tk 1 (own_tk 1 (own_tk 1 S))).1 1))]) st110 ?_
        refine W.s1 (mkF m 39 #[.val (.ref ao), .val (.int (1 : Int32)), .val (.ref ae)] [(.int (-1 : Int32)), (.int ((own_tk 1 (own_tk 1 (own_tk 1 S))).1 1))]) (fun _ kx_ => XS.iconst X110.here hx rfl (hb hby d10_38) kx_) ?_
        refine W.icmp X110 hx (hb hby d10_39) (pc' := 46) (pc'' := 42) (by decide) (by decide) rfl (fun (c39 : ¬ ((own_tk 1 (own_tk 1 (own_tk 1 S))).1 1) = (-1 : Int32)) => ?_) (fun (c39 : ((own_tk 1 (own_tk 1 (own_tk 1 S))).1 1) = (-1 : Int32)) => ?_)
        · exact absurd r4 c39
        · refine W.s1 (mkF m 43 #[.val (.ref ao), .val (.int (1 : Int32)), .val (.ref ae)] [(.int (1 : Int32))]) (fun _ kx_ => XS.iconst X110.here hx rfl (hb hby d10_42) kx_) ?_
          refine W.s1 (mkF m 47 #[.val (.ref ao), .val (.int (1 : Int32)), .val (.ref ae)] [(.int (1 : Int32))]) (fun _ kx_ => XS.goto X110.here hx rfl (pc0 := 43) (pc' := 47) rfl (hb hby d10_43) (by decide) (by decide) kx_) ?_
          exact W.retZ X110 hx hlk (t := .boolean) (z' := (1 : Int32)) Bd.returns (by simp) (hb hby d10_47) rfl (by show Q10_1 Z ao ae zb zx zy zf zd zn zp S fe h0 n0 _ T110.heap _; rw [e110]; exact ⟨rfl, N110, K110, H110⟩) (by decide) (by decide)
theorem ef_0 (m : MethodId) (x0 : Int32) (x1 : Int32) (x2 : Int32) (x3 : Int32) (x4 : Int32) : entryFrame m #[(.int x0), (.int x1), (.int x2), (.int x3), (.int x4)] maxLocals = mkF m 0 #[.val (.int x0), .val (.int x1), .val (.int x2), .val (.int x3), .val (.int x4), .unset, .unset, .unset, .unset, .unset, .unset, .unset, .unset] [] := by first | (simp [entryFrame, mkF, argsToLocals, Value.category, maxLocals]; done) | rfl
theorem pd_6 : parseMethodDescriptor "(IIIIII)[I" = some ⟨[.int, .int, .int, .int, .int, .int], some (.array .int)⟩ := by decide +kernel
theorem pd_7 : parseMethodDescriptor "(I[I[D[D)V" = some ⟨[.int, (.array .int), (.array .double), (.array .double)], none⟩ := by decide +kernel
theorem pd_8 : parseMethodDescriptor "(Lcom/example/stummel/stummel/geometry/PendingCrossings;II)V" = some ⟨[(.object "com/example/stummel/stummel/geometry/PendingCrossings"), .int, .int], none⟩ := by decide +kernel
theorem pd_9 : parseMethodDescriptor "(Lcom/example/stummel/stummel/geometry/PendingCrossings;I[I)Z" = some ⟨[(.object "com/example/stummel/stummel/geometry/PendingCrossings"), .int, (.array .int)], some .boolean⟩ := by decide +kernel
def Q0 (Z : State) (y0 : Int32) (y1 : Int32) (y2 : Int32) (y3 : Int32) (y4 : Int32) (h0 : Heap) (n0 : Nat) (v : Option Value) (h : Heap) (L : List Loc) : Prop := v = some (.int 1) ∧ Fr n0 L
set_option maxRecDepth 65536 in
set_option maxHeartbeats 40000000 in
theorem rm0 (l : Launch) (Z : State) (a0 : Array Value) (hw : ∀ d ∈ tables_1, d.before a0 Z = true) (ws : List Jvm.Cond) (y0 : Int32) (y1 : Int32) (y2 : Int32) (y3 : Int32) (y4 : Int32) (h0 : Heap) (n0 : Nat) (Z0 : n0 ≤ h0.size) :
    MetFree l x (head1 (Jvm.Cond.code x code maxLocals ret :: ws) room_1) (fun a U => a = #[(.int y0), (.int y1), (.int y2), (.int y3), (.int y4)] ∧ Z.Warmed39 U.vm ∧ U.heap = h0) (fun _ _ _ _ _ => True) (fun _ U o U' => ∃ v L, o = .returned v ∧ Q0 Z y0 y1 y2 y3 y4 h0 n0 v U'.heap L ∧ FrameEnd U o U' L 32 128) := by
  refine MetFree.of_bodySF (plainFor_of_name pn_0) hisR ?_
  intro p e s m args below meth c s₁ Bd hml0 hP hK
  obtain ⟨rfl, hZ, hh⟩ := hP
  have hx := Bd.exec
  have hby := Bd.bytes
  have hml : c.maxLocals = 13 := hml0
  have hown : s.vm.findClass "com/example/stummel/stummel/geometry/PendingCrossingsCancelPinLaw" = some m.cls := findClass_of_methodNamed Bd.named
  have hnm := (name_of_methodNamed Bd.named Bd.method).1
  have hlk : meth.locks = false := BodyLoose.notSynchronized Bd
  have X0 : Stand p l e room_1 s m #[(.int y0), (.int y1), (.int y2), (.int y3), (.int y4)] below meth c s₁ [] 0 0 := Stand.of_body Bd
  have e0 : s₁.heap = h0 := by rw [← hh, Bd.state]; rfl
  have N0 := Fr.nil n0
  show W.Gl p e below s (Q0 Z y0 y1 y2 y3 y4 h0 n0) 32 128 s₁ (entryFrame m #[(.int y0), (.int y1), (.int y2), (.int y3), (.int y4)] maxLocals)
  refine W.cast (ef_0 m y0 y1 y2 y3 y4) ?_
  refine W.s1 (mkF m 1 #[.val (.int y0), .val (.int y1), .val (.int y2), .val (.int y3), .val (.int y4), .unset, .unset, .unset, .unset, .unset, .unset, .unset, .unset] [(.int y0)]) (fun _ kx_ => XS.iloadN X0.here hx rfl (hb hby at_0) rfl kx_) ?_
  refine W.s1 (mkF m 3 #[.val (.int y0), .val (.int y1), .val (.int y2), .val (.int y3), .val (.int y4), .unset, .unset, .unset, .unset, .unset, .unset, .unset, .unset] [(.int (2147483647 : Int32)), (.int y0)]) (fun _ kx_ => X0.ldcInt hx hown (mvT hZ (hw _ (List.mem_of_getElem? (i := 0) rfl))) (g := (mkF m 1 #[.val (.int y0), .val (.int y1), .val (.int y2), .val (.int y3), .val (.int y4), .unset, .unset, .unset, .unset, .unset, .unset, .unset, .unset] [(.int y0)])) rfl (hb hby at_1) _ kx_) ?_
  refine W.s1 (mkF m 4 #[.val (.int y0), .val (.int y1), .val (.int y2), .val (.int y3), .val (.int y4), .unset, .unset, .unset, .unset, .unset, .unset, .unset, .unset] [(.int (y0 &&& (2147483647 : Int32)))]) (fun _ kx_ => XS.iand X0.here hx rfl (hb hby at_3) rfl kx_) ?_
  refine W.s1 (mkF m 5 #[.val (.int y0), .val (.int y1), .val (.int y2), .val (.int y3), .val (.int y4), .unset, .unset, .unset, .unset, .unset, .unset, .unset, .unset] [(.int (3 : Int32)), (.int (y0 &&& (2147483647 : Int32)))]) (fun _ kx_ => XS.iconst X0.here hx rfl (hb hby at_4) kx_) ?_
  refine W.s1 (mkF m 6 #[.val (.int y0), .val (.int y1), .val (.int y2), .val (.int y3), .val (.int y4), .unset, .unset, .unset, .unset, .unset, .unset, .unset, .unset] [(.int ((y0 &&& (2147483647 : Int32)) % (3 : Int32)))]) (fun _ kx_ => iremM X0 hx rfl (hb hby at_5) rfl (by decide) kx_) ?_
  generalize hg_xc0 : ((y0 &&& (2147483647 : Int32)) % (3 : Int32)) = xc0
  refine W.s1 (mkF m 8 #[.val (.int y0), .val (.int y1), .val (.int y2), .val (.int y3), .val (.int y4), .val (.int xc0), .unset, .unset, .unset, .unset, .unset, .unset, .unset] []) (fun _ kx_ => XS.istore X0.here hx rfl (hb hby at_6) rfl (l' := #[.val (.int y0), .val (.int y1), .val (.int y2), .val (.int y3), .val (.int y4), .val (.int xc0), .unset, .unset, .unset, .unset, .unset, .unset, .unset]) rfl kx_) ?_
  refine W.s1 (mkF m 9 #[.val (.int y0), .val (.int y1), .val (.int y2), .val (.int y3), .val (.int y4), .val (.int xc0), .unset, .unset, .unset, .unset, .unset, .unset, .unset] [(.int y1)]) (fun _ kx_ => XS.iloadN X0.here hx rfl (hb hby at_8) rfl kx_) ?_
  refine W.s1 (mkF m 11 #[.val (.int y0), .val (.int y1), .val (.int y2), .val (.int y3), .val (.int y4), .val (.int xc0), .unset, .unset, .unset, .unset, .unset, .unset, .unset] [(.int (2147483647 : Int32)), (.int y1)]) (fun _ kx_ => X0.ldcInt hx hown (mvT hZ (hw _ (List.mem_of_getElem? (i := 0) rfl))) (g := (mkF m 9 #[.val (.int y0), .val (.int y1), .val (.int y2), .val (.int y3), .val (.int y4), .val (.int xc0), .unset, .unset, .unset, .unset, .unset, .unset, .unset] [(.int y1)])) rfl (hb hby at_9) _ kx_) ?_
  refine W.s1 (mkF m 12 #[.val (.int y0), .val (.int y1), .val (.int y2), .val (.int y3), .val (.int y4), .val (.int xc0), .unset, .unset, .unset, .unset, .unset, .unset, .unset] [(.int (y1 &&& (2147483647 : Int32)))]) (fun _ kx_ => XS.iand X0.here hx rfl (hb hby at_11) rfl kx_) ?_
  refine W.s1 (mkF m 13 #[.val (.int y0), .val (.int y1), .val (.int y2), .val (.int y3), .val (.int y4), .val (.int xc0), .unset, .unset, .unset, .unset, .unset, .unset, .unset] [(.int (3 : Int32)), (.int (y1 &&& (2147483647 : Int32)))]) (fun _ kx_ => XS.iconst X0.here hx rfl (hb hby at_12) kx_) ?_
  refine W.s1 (mkF m 14 #[.val (.int y0), .val (.int y1), .val (.int y2), .val (.int y3), .val (.int y4), .val (.int xc0), .unset, .unset, .unset, .unset, .unset, .unset, .unset] [(.int ((y1 &&& (2147483647 : Int32)) % (3 : Int32)))]) (fun _ kx_ => iremM X0 hx rfl (hb hby at_13) rfl (by decide) kx_) ?_
  generalize hg_xc1 : ((y1 &&& (2147483647 : Int32)) % (3 : Int32)) = xc1
  refine W.s1 (mkF m 16 #[.val (.int y0), .val (.int y1), .val (.int y2), .val (.int y3), .val (.int y4), .val (.int xc0), .val (.int xc1), .unset, .unset, .unset, .unset, .unset, .unset] []) (fun _ kx_ => XS.istore X0.here hx rfl (hb hby at_14) rfl (l' := #[.val (.int y0), .val (.int y1), .val (.int y2), .val (.int y3), .val (.int y4), .val (.int xc0), .val (.int xc1), .unset, .unset, .unset, .unset, .unset, .unset]) rfl kx_) ?_
  refine W.s1 (mkF m 17 #[.val (.int y0), .val (.int y1), .val (.int y2), .val (.int y3), .val (.int y4), .val (.int xc0), .val (.int xc1), .unset, .unset, .unset, .unset, .unset, .unset] [(.int y2)]) (fun _ kx_ => XS.iloadN X0.here hx rfl (hb hby at_16) rfl kx_) ?_
  refine W.s1 (mkF m 19 #[.val (.int y0), .val (.int y1), .val (.int y2), .val (.int y3), .val (.int y4), .val (.int xc0), .val (.int xc1), .unset, .unset, .unset, .unset, .unset, .unset] [(.int (2147483647 : Int32)), (.int y2)]) (fun _ kx_ => X0.ldcInt hx hown (mvT hZ (hw _ (List.mem_of_getElem? (i := 0) rfl))) (g := (mkF m 17 #[.val (.int y0), .val (.int y1), .val (.int y2), .val (.int y3), .val (.int y4), .val (.int xc0), .val (.int xc1), .unset, .unset, .unset, .unset, .unset, .unset] [(.int y2)])) rfl (hb hby at_17) _ kx_) ?_
  refine W.s1 (mkF m 20 #[.val (.int y0), .val (.int y1), .val (.int y2), .val (.int y3), .val (.int y4), .val (.int xc0), .val (.int xc1), .unset, .unset, .unset, .unset, .unset, .unset] [(.int (y2 &&& (2147483647 : Int32)))]) (fun _ kx_ => XS.iand X0.here hx rfl (hb hby at_19) rfl kx_) ?_
  refine W.s1 (mkF m 21 #[.val (.int y0), .val (.int y1), .val (.int y2), .val (.int y3), .val (.int y4), .val (.int xc0), .val (.int xc1), .unset, .unset, .unset, .unset, .unset, .unset] [(.int (3 : Int32)), (.int (y2 &&& (2147483647 : Int32)))]) (fun _ kx_ => XS.iconst X0.here hx rfl (hb hby at_20) kx_) ?_
  refine W.s1 (mkF m 22 #[.val (.int y0), .val (.int y1), .val (.int y2), .val (.int y3), .val (.int y4), .val (.int xc0), .val (.int xc1), .unset, .unset, .unset, .unset, .unset, .unset] [(.int ((y2 &&& (2147483647 : Int32)) % (3 : Int32)))]) (fun _ kx_ => iremM X0 hx rfl (hb hby at_21) rfl (by decide) kx_) ?_
  generalize hg_xc2 : ((y2 &&& (2147483647 : Int32)) % (3 : Int32)) = xc2
  refine W.s1 (mkF m 24 #[.val (.int y0), .val (.int y1), .val (.int y2), .val (.int y3), .val (.int y4), .val (.int xc0), .val (.int xc1), .val (.int xc2), .unset, .unset, .unset, .unset, .unset] []) (fun _ kx_ => XS.istore X0.here hx rfl (hb hby at_22) rfl (l' := #[.val (.int y0), .val (.int y1), .val (.int y2), .val (.int y3), .val (.int y4), .val (.int xc0), .val (.int xc1), .val (.int xc2), .unset, .unset, .unset, .unset, .unset]) rfl kx_) ?_
  refine W.s1 (mkF m 25 #[.val (.int y0), .val (.int y1), .val (.int y2), .val (.int y3), .val (.int y4), .val (.int xc0), .val (.int xc1), .val (.int xc2), .unset, .unset, .unset, .unset, .unset] [(.int y3)]) (fun _ kx_ => XS.iloadN X0.here hx rfl (hb hby at_24) rfl kx_) ?_
  refine W.s1 (mkF m 27 #[.val (.int y0), .val (.int y1), .val (.int y2), .val (.int y3), .val (.int y4), .val (.int xc0), .val (.int xc1), .val (.int xc2), .unset, .unset, .unset, .unset, .unset] [(.int (2147483647 : Int32)), (.int y3)]) (fun _ kx_ => X0.ldcInt hx hown (mvT hZ (hw _ (List.mem_of_getElem? (i := 0) rfl))) (g := (mkF m 25 #[.val (.int y0), .val (.int y1), .val (.int y2), .val (.int y3), .val (.int y4), .val (.int xc0), .val (.int xc1), .val (.int xc2), .unset, .unset, .unset, .unset, .unset] [(.int y3)])) rfl (hb hby at_25) _ kx_) ?_
  refine W.s1 (mkF m 28 #[.val (.int y0), .val (.int y1), .val (.int y2), .val (.int y3), .val (.int y4), .val (.int xc0), .val (.int xc1), .val (.int xc2), .unset, .unset, .unset, .unset, .unset] [(.int (y3 &&& (2147483647 : Int32)))]) (fun _ kx_ => XS.iand X0.here hx rfl (hb hby at_27) rfl kx_) ?_
  refine W.s1 (mkF m 29 #[.val (.int y0), .val (.int y1), .val (.int y2), .val (.int y3), .val (.int y4), .val (.int xc0), .val (.int xc1), .val (.int xc2), .unset, .unset, .unset, .unset, .unset] [(.int (3 : Int32)), (.int (y3 &&& (2147483647 : Int32)))]) (fun _ kx_ => XS.iconst X0.here hx rfl (hb hby at_28) kx_) ?_
  refine W.s1 (mkF m 30 #[.val (.int y0), .val (.int y1), .val (.int y2), .val (.int y3), .val (.int y4), .val (.int xc0), .val (.int xc1), .val (.int xc2), .unset, .unset, .unset, .unset, .unset] [(.int ((y3 &&& (2147483647 : Int32)) % (3 : Int32)))]) (fun _ kx_ => iremM X0 hx rfl (hb hby at_29) rfl (by decide) kx_) ?_
  generalize hg_xsv : ((y3 &&& (2147483647 : Int32)) % (3 : Int32)) = xsv
  refine W.s1 (mkF m 32 #[.val (.int y0), .val (.int y1), .val (.int y2), .val (.int y3), .val (.int y4), .val (.int xc0), .val (.int xc1), .val (.int xc2), .val (.int xsv), .unset, .unset, .unset, .unset] []) (fun _ kx_ => XS.istore X0.here hx rfl (hb hby at_30) rfl (l' := #[.val (.int y0), .val (.int y1), .val (.int y2), .val (.int y3), .val (.int y4), .val (.int xc0), .val (.int xc1), .val (.int xc2), .val (.int xsv), .unset, .unset, .unset, .unset]) rfl kx_) ?_
  refine W.s1 (mkF m 34 #[.val (.int y0), .val (.int y1), .val (.int y2), .val (.int y3), .val (.int y4), .val (.int xc0), .val (.int xc1), .val (.int xc2), .val (.int xsv), .unset, .unset, .unset, .unset] [(.int y4)]) (fun _ kx_ => XS.iload X0.here hx rfl (hb hby at_32) rfl kx_) ?_
  refine W.s1 (mkF m 36 #[.val (.int y0), .val (.int y1), .val (.int y2), .val (.int y3), .val (.int y4), .val (.int xc0), .val (.int xc1), .val (.int xc2), .val (.int xsv), .unset, .unset, .unset, .unset] [(.int (2147483647 : Int32)), (.int y4)]) (fun _ kx_ => X0.ldcInt hx hown (mvT hZ (hw _ (List.mem_of_getElem? (i := 0) rfl))) (g := (mkF m 34 #[.val (.int y0), .val (.int y1), .val (.int y2), .val (.int y3), .val (.int y4), .val (.int xc0), .val (.int xc1), .val (.int xc2), .val (.int xsv), .unset, .unset, .unset, .unset] [(.int y4)])) rfl (hb hby at_34) _ kx_) ?_
  refine W.s1 (mkF m 37 #[.val (.int y0), .val (.int y1), .val (.int y2), .val (.int y3), .val (.int y4), .val (.int xc0), .val (.int xc1), .val (.int xc2), .val (.int xsv), .unset, .unset, .unset, .unset] [(.int (y4 &&& (2147483647 : Int32)))]) (fun _ kx_ => XS.iand X0.here hx rfl (hb hby at_36) rfl kx_) ?_
  refine W.s1 (mkF m 38 #[.val (.int y0), .val (.int y1), .val (.int y2), .val (.int y3), .val (.int y4), .val (.int xc0), .val (.int xc1), .val (.int xc2), .val (.int xsv), .unset, .unset, .unset, .unset] [(.int (3 : Int32)), (.int (y4 &&& (2147483647 : Int32)))]) (fun _ kx_ => XS.iconst X0.here hx rfl (hb hby at_37) kx_) ?_
  refine W.s1 (mkF m 39 #[.val (.int y0), .val (.int y1), .val (.int y2), .val (.int y3), .val (.int y4), .val (.int xc0), .val (.int xc1), .val (.int xc2), .val (.int xsv), .unset, .unset, .unset, .unset] [(.int ((y4 &&& (2147483647 : Int32)) % (3 : Int32)))]) (fun _ kx_ => iremM X0 hx rfl (hb hby at_38) rfl (by decide) kx_) ?_
  generalize hg_xrv : ((y4 &&& (2147483647 : Int32)) % (3 : Int32)) = xrv
  refine W.s1 (mkF m 41 #[.val (.int y0), .val (.int y1), .val (.int y2), .val (.int y3), .val (.int y4), .val (.int xc0), .val (.int xc1), .val (.int xc2), .val (.int xsv), .val (.int xrv), .unset, .unset, .unset] []) (fun _ kx_ => XS.istore X0.here hx rfl (hb hby at_39) rfl (l' := #[.val (.int y0), .val (.int y1), .val (.int y2), .val (.int y3), .val (.int y4), .val (.int xc0), .val (.int xc1), .val (.int xc2), .val (.int xsv), .val (.int xrv), .unset, .unset, .unset]) rfl kx_) ?_
  obtain ⟨c0, rfl⟩ := own_f3 hg_xc0
  obtain ⟨c1, rfl⟩ := own_f3 hg_xc1
  obtain ⟨c2, rfl⟩ := own_f3 hg_xc2
  obtain ⟨cs, rfl⟩ := own_f3 hg_xsv
  obtain ⟨cr, rfl⟩ := own_f3 hg_xrv
  refine W.s1 (mkF m 42 #[.val (.int y0), .val (.int y1), .val (.int y2), .val (.int y3), .val (.int y4), .val (.int (Int32.ofNat c0.1)), .val (.int (Int32.ofNat c1.1)), .val (.int (Int32.ofNat c2.1)), .val (.int (Int32.ofNat cs.1)), .val (.int (Int32.ofNat cr.1)), .unset, .unset, .unset] [(.int (0 : Int32))]) (fun _ kx_ => XS.iconst X0.here hx rfl (hb hby at_41) kx_) ?_
  refine W.s1 (mkF m 44 #[.val (.int y0), .val (.int y1), .val (.int y2), .val (.int y3), .val (.int y4), .val (.int (Int32.ofNat c0.1)), .val (.int (Int32.ofNat c1.1)), .val (.int (Int32.ofNat c2.1)), .val (.int (Int32.ofNat cs.1)), .val (.int (Int32.ofNat cr.1)), .unset, .unset, .unset] [(.int (Int32.ofNat c0.1)), (.int (0 : Int32))]) (fun _ kx_ => XS.iload X0.here hx rfl (hb hby at_42) rfl kx_) ?_
  refine W.s1 (mkF m 46 #[.val (.int y0), .val (.int y1), .val (.int y2), .val (.int y3), .val (.int y4), .val (.int (Int32.ofNat c0.1)), .val (.int (Int32.ofNat c1.1)), .val (.int (Int32.ofNat c2.1)), .val (.int (Int32.ofNat cs.1)), .val (.int (Int32.ofNat cr.1)), .unset, .unset, .unset] [(.int (Int32.ofNat c1.1)), (.int (Int32.ofNat c0.1)), (.int (0 : Int32))]) (fun _ kx_ => XS.iload X0.here hx rfl (hb hby at_44) rfl kx_) ?_
  refine W.s1 (mkF m 48 #[.val (.int y0), .val (.int y1), .val (.int y2), .val (.int y3), .val (.int y4), .val (.int (Int32.ofNat c0.1)), .val (.int (Int32.ofNat c1.1)), .val (.int (Int32.ofNat c2.1)), .val (.int (Int32.ofNat cs.1)), .val (.int (Int32.ofNat cr.1)), .unset, .unset, .unset] [(.int (Int32.ofNat c2.1)), (.int (Int32.ofNat c1.1)), (.int (Int32.ofNat c0.1)), (.int (0 : Int32))]) (fun _ kx_ => XS.iload X0.here hx rfl (hb hby at_46) rfl kx_) ?_
  refine W.s1 (mkF m 50 #[.val (.int y0), .val (.int y1), .val (.int y2), .val (.int y3), .val (.int y4), .val (.int (Int32.ofNat c0.1)), .val (.int (Int32.ofNat c1.1)), .val (.int (Int32.ofNat c2.1)), .val (.int (Int32.ofNat cs.1)), .val (.int (Int32.ofNat cr.1)), .unset, .unset, .unset] [(.int (Int32.ofNat cs.1)), (.int (Int32.ofNat c2.1)), (.int (Int32.ofNat c1.1)), (.int (Int32.ofNat c0.1)), (.int (0 : Int32))]) (fun _ kx_ => XS.iload X0.here hx rfl (hb hby at_48) rfl kx_) ?_
  refine W.s1 (mkF m 52 #[.val (.int y0), .val (.int y1), .val (.int y2), .val (.int y3), .val (.int y4), .val (.int (Int32.ofNat c0.1)), .val (.int (Int32.ofNat c1.1)), .val (.int (Int32.ofNat c2.1)), .val (.int (Int32.ofNat cs.1)), .val (.int (Int32.ofNat cr.1)), .unset, .unset, .unset] [(.int (Int32.ofNat cr.1)), (.int (Int32.ofNat cs.1)), (.int (Int32.ofNat c2.1)), (.int (Int32.ofNat c1.1)), (.int (Int32.ofNat c0.1)), (.int (0 : Int32))]) (fun _ kx_ => XS.iload X0.here hx rfl (hb hby at_50) rfl kx_) ?_
  have Zo52 := Z0
  obtain ⟨_, _, ⟨T101, L101, k101, n101⟩, -, X101, ⟨Lc101, hQ101, l101, y101, z101⟩, st101⟩ := Jvm.LawKit.callS X0 hx (y := (⟨"com/example/stummel/stummel/geometry/PendingCrossingsCancelPinLaw", "expected", "(IIIIII)[I"⟩ : MethodName)) hown (mvT hZ (hw _ (List.mem_of_getElem? (i := 1) rfl))) (mvT hZ (hw _ (List.mem_of_getElem? (i := 2) rfl))) (mvT hZ (hw _ (List.mem_of_getElem? (i := 3) rfl))) (mvT hZ (hw _ (List.mem_of_getElem? (i := 4) rfl))) (by decide) (backOf (W := 0) (rm1a l Z a0 hw [] c0 c1 c2 cs cr h0 n0 Z0 ) hZ (hw _ (List.mem_of_getElem? (i := 4) rfl)) (hw _ (List.mem_of_getElem? (i := 3) rfl)) (by decide) (by decide)) (g := (mkF m 52 #[.val (.int y0), .val (.int y1), .val (.int y2), .val (.int y3), .val (.int y4), .val (.int (Int32.ofNat c0.1)), .val (.int (Int32.ofNat c1.1)), .val (.int (Int32.ofNat c2.1)), .val (.int (Int32.ofNat cs.1)), .val (.int (Int32.ofNat cr.1)), .unset, .unset, .unset] [(.int (Int32.ofNat cr.1)), (.int (Int32.ofNat cs.1)), (.int (Int32.ofNat c2.1)), (.int (Int32.ofNat c1.1)), (.int (Int32.ofNat c0.1)), (.int (0 : Int32))])) rfl (by rw [hml]; rfl) (argsL := [(.int (0 : Int32)), (.int (Int32.ofNat c0.1)), (.int (Int32.ofNat c1.1)), (.int (Int32.ofNat c2.1)), (.int (Int32.ofNat cs.1)), (.int (Int32.ofNat cr.1))]) (rest := []) (lenOf pd_6 rfl) rfl (by show 2 * 0 + _ ≤ _; exact Nat.le_of_eq rfl) (hb hby at_52) (fun _ _ => ⟨rfl, e0, (by decide : 0 + 1 ≤ _), (by decide : 0 + 3 ≤ _)⟩)
  dsimp only [Pt.U, Pt.locs, Pt.cells, Pt.slots] at X101 l101 y101 z101 st101 hQ101
  subst l101 y101 z101
  obtain ⟨h101, e101⟩ : ∃ z, T101.heap = z := ⟨_, rfl⟩
  rw [e101] at hQ101
  obtain ⟨z1, rfl, Nq101, Kq101, hz_z1, A101⟩ := hQ101
  have N101 := Fr.app N0 Nq101
  have Z101 : n0 ≤ h101.size := Nat.le_trans Z0 Kq101.1
  have ge102 : n0 ≤ z1 := Nat.le_trans Zo52 hz_z1
  refine W.s2 (mkF m 55 #[.val (.int y0), .val (.int y1), .val (.int y2), .val (.int y3), .val (.int y4), .val (.int (Int32.ofNat c0.1)), .val (.int (Int32.ofNat c1.1)), .val (.int (Int32.ofNat c2.1)), .val (.int (Int32.ofNat cs.1)), .val (.int (Int32.ofNat cr.1)), .unset, .unset, .unset] [(.ref z1)]) st101 ?_
  refine W.s1 (mkF m 57 #[.val (.int y0), .val (.int y1), .val (.int y2), .val (.int y3), .val (.int y4), .val (.int (Int32.ofNat c0.1)), .val (.int (Int32.ofNat c1.1)), .val (.int (Int32.ofNat c2.1)), .val (.int (Int32.ofNat cs.1)), .val (.int (Int32.ofNat cr.1)), .val (.ref z1), .unset, .unset] []) (fun _ kx_ => XS.astore X101.here hx rfl (hb hby at_55) rfl rfl (l' := #[.val (.int y0), .val (.int y1), .val (.int y2), .val (.int y3), .val (.int y4), .val (.int (Int32.ofNat c0.1)), .val (.int (Int32.ofNat c1.1)), .val (.int (Int32.ofNat c2.1)), .val (.int (Int32.ofNat cs.1)), .val (.int (Int32.ofNat cr.1)), .val (.ref z1), .unset, .unset]) rfl kx_) ?_
  refine W.s1 (mkF m 58 #[.val (.int y0), .val (.int y1), .val (.int y2), .val (.int y3), .val (.int y4), .val (.int (Int32.ofNat c0.1)), .val (.int (Int32.ofNat c1.1)), .val (.int (Int32.ofNat c2.1)), .val (.int (Int32.ofNat cs.1)), .val (.int (Int32.ofNat cr.1)), .val (.ref z1), .unset, .unset] [(.int (1 : Int32))]) (fun _ kx_ => XS.iconst X101.here hx rfl (hb hby at_57) kx_) ?_
  refine W.s1 (mkF m 60 #[.val (.int y0), .val (.int y1), .val (.int y2), .val (.int y3), .val (.int y4), .val (.int (Int32.ofNat c0.1)), .val (.int (Int32.ofNat c1.1)), .val (.int (Int32.ofNat c2.1)), .val (.int (Int32.ofNat cs.1)), .val (.int (Int32.ofNat cr.1)), .val (.ref z1), .unset, .unset] [(.int (Int32.ofNat c0.1)), (.int (1 : Int32))]) (fun _ kx_ => XS.iload X101.here hx rfl (hb hby at_58) rfl kx_) ?_
  refine W.s1 (mkF m 62 #[.val (.int y0), .val (.int y1), .val (.int y2), .val (.int y3), .val (.int y4), .val (.int (Int32.ofNat c0.1)), .val (.int (Int32.ofNat c1.1)), .val (.int (Int32.ofNat c2.1)), .val (.int (Int32.ofNat cs.1)), .val (.int (Int32.ofNat cr.1)), .val (.ref z1), .unset, .unset] [(.int (Int32.ofNat c1.1)), (.int (Int32.ofNat c0.1)), (.int (1 : Int32))]) (fun _ kx_ => XS.iload X101.here hx rfl (hb hby at_60) rfl kx_) ?_
  refine W.s1 (mkF m 64 #[.val (.int y0), .val (.int y1), .val (.int y2), .val (.int y3), .val (.int y4), .val (.int (Int32.ofNat c0.1)), .val (.int (Int32.ofNat c1.1)), .val (.int (Int32.ofNat c2.1)), .val (.int (Int32.ofNat cs.1)), .val (.int (Int32.ofNat cr.1)), .val (.ref z1), .unset, .unset] [(.int (Int32.ofNat c2.1)), (.int (Int32.ofNat c1.1)), (.int (Int32.ofNat c0.1)), (.int (1 : Int32))]) (fun _ kx_ => XS.iload X101.here hx rfl (hb hby at_62) rfl kx_) ?_
  refine W.s1 (mkF m 66 #[.val (.int y0), .val (.int y1), .val (.int y2), .val (.int y3), .val (.int y4), .val (.int (Int32.ofNat c0.1)), .val (.int (Int32.ofNat c1.1)), .val (.int (Int32.ofNat c2.1)), .val (.int (Int32.ofNat cs.1)), .val (.int (Int32.ofNat cr.1)), .val (.ref z1), .unset, .unset] [(.int (Int32.ofNat cs.1)), (.int (Int32.ofNat c2.1)), (.int (Int32.ofNat c1.1)), (.int (Int32.ofNat c0.1)), (.int (1 : Int32))]) (fun _ kx_ => XS.iload X101.here hx rfl (hb hby at_64) rfl kx_) ?_
  refine W.s1 (mkF m 68 #[.val (.int y0), .val (.int y1), .val (.int y2), .val (.int y3), .val (.int y4), .val (.int (Int32.ofNat c0.1)), .val (.int (Int32.ofNat c1.1)), .val (.int (Int32.ofNat c2.1)), .val (.int (Int32.ofNat cs.1)), .val (.int (Int32.ofNat cr.1)), .val (.ref z1), .unset, .unset] [(.int (Int32.ofNat cr.1)), (.int (Int32.ofNat cs.1)), (.int (Int32.ofNat c2.1)), (.int (Int32.ofNat c1.1)), (.int (Int32.ofNat c0.1)), (.int (1 : Int32))]) (fun _ kx_ => XS.iload X101.here hx rfl (hb hby at_66) rfl kx_) ?_
  have Zo68 := Z101
  obtain ⟨_, _, ⟨T103, L103, k103, n103⟩, -, X103, ⟨Lc103, hQ103, l103, y103, z103⟩, st103⟩ := Jvm.LawKit.callS X101 hx (y := (⟨"com/example/stummel/stummel/geometry/PendingCrossingsCancelPinLaw", "expected", "(IIIIII)[I"⟩ : MethodName)) hown (mvT hZ (hw _ (List.mem_of_getElem? (i := 1) rfl))) (mvT hZ (hw _ (List.mem_of_getElem? (i := 2) rfl))) (mvT hZ (hw _ (List.mem_of_getElem? (i := 3) rfl))) (mvT hZ (hw _ (List.mem_of_getElem? (i := 4) rfl))) (by decide) (backOf (W := 0) (rm1b l Z a0 hw [] c0 c1 c2 cs cr h101 n0 Z101 ) hZ (hw _ (List.mem_of_getElem? (i := 4) rfl)) (hw _ (List.mem_of_getElem? (i := 3) rfl)) (by decide) (by decide)) (g := (mkF m 68 #[.val (.int y0), .val (.int y1), .val (.int y2), .val (.int y3), .val (.int y4), .val (.int (Int32.ofNat c0.1)), .val (.int (Int32.ofNat c1.1)), .val (.int (Int32.ofNat c2.1)), .val (.int (Int32.ofNat cs.1)), .val (.int (Int32.ofNat cr.1)), .val (.ref z1), .unset, .unset] [(.int (Int32.ofNat cr.1)), (.int (Int32.ofNat cs.1)), (.int (Int32.ofNat c2.1)), (.int (Int32.ofNat c1.1)), (.int (Int32.ofNat c0.1)), (.int (1 : Int32))])) rfl (by rw [hml]; rfl) (argsL := [(.int (1 : Int32)), (.int (Int32.ofNat c0.1)), (.int (Int32.ofNat c1.1)), (.int (Int32.ofNat c2.1)), (.int (Int32.ofNat cs.1)), (.int (Int32.ofNat cr.1))]) (rest := []) (lenOf pd_6 rfl) rfl (by show 2 * 0 + _ ≤ _; exact Nat.le_of_eq rfl) (hb hby at_68) (fun _ _ => ⟨rfl, e101, (by decide : 1 + 1 ≤ _), (by decide : 3 + 3 ≤ _)⟩)
  dsimp only [Pt.U, Pt.locs, Pt.cells, Pt.slots] at X103 l103 y103 z103 st103 hQ103
  subst l103 y103 z103
  obtain ⟨h103, e103⟩ : ∃ z, T103.heap = z := ⟨_, rfl⟩
  rw [e103] at hQ103
  obtain ⟨z2, rfl, Nq103, Kq103, hz_z2, A103⟩ := hQ103
  have N103 := Fr.app N101 Nq103
  have Z103 : n0 ≤ h103.size := Nat.le_trans Z101 Kq103.1
  have f104 := A101.keep Kq103 nin0
  have ne105 : z1 ≠ z2 := Nat.ne_of_lt (Nat.lt_of_lt_of_le A101.lt hz_z2)
  have ge106 : n0 ≤ z2 := Nat.le_trans Zo68 hz_z2
  refine W.s2 (mkF m 71 #[.val (.int y0), .val (.int y1), .val (.int y2), .val (.int y3), .val (.int y4), .val (.int (Int32.ofNat c0.1)), .val (.int (Int32.ofNat c1.1)), .val (.int (Int32.ofNat c2.1)), .val (.int (Int32.ofNat cs.1)), .val (.int (Int32.ofNat cr.1)), .val (.ref z1), .unset, .unset] [(.ref z2)]) st103 ?_
  refine W.s1 (mkF m 73 #[.val (.int y0), .val (.int y1), .val (.int y2), .val (.int y3), .val (.int y4), .val (.int (Int32.ofNat c0.1)), .val (.int (Int32.ofNat c1.1)), .val (.int (Int32.ofNat c2.1)), .val (.int (Int32.ofNat cs.1)), .val (.int (Int32.ofNat cr.1)), .val (.ref z1), .val (.ref z2), .unset] []) (fun _ kx_ => XS.astore X103.here hx rfl (hb hby at_71) rfl rfl (l' := #[.val (.int y0), .val (.int y1), .val (.int y2), .val (.int y3), .val (.int y4), .val (.int (Int32.ofNat c0.1)), .val (.int (Int32.ofNat c1.1)), .val (.int (Int32.ofNat c2.1)), .val (.int (Int32.ofNat cs.1)), .val (.int (Int32.ofNat cr.1)), .val (.ref z1), .val (.ref z2), .unset]) rfl kx_) ?_
  refine W.newo X103 hx hZ hown (hw _ (List.mem_of_getElem? (i := 6) rfl)) (hw _ (List.mem_of_getElem? (i := 7) rfl)) (hw _ (List.mem_of_getElem? (i := 8) rfl)) e103 (hb hby at_73) (by decide) (by decide) (pc' := 76) rfl (fun T107 h107 b107 X107 e107 E107 g107 A107 D107 => ?_)
  have ne108 : z1 ≠ b107 := Nat.ne_of_lt (Nat.lt_of_lt_of_le f104.lt (Nat.le_of_eq g107.symm))
  have ne109 : z2 ≠ b107 := Nat.ne_of_lt (Nat.lt_of_lt_of_le A103.lt (Nat.le_of_eq g107.symm))
  have ge107 : n0 ≤ b107 := Nat.le_trans Z103 (Nat.le_of_eq g107.symm)
  have Z107 : n0 ≤ h107.size := Nat.le_trans Z103 E107.1
  have f110 := f104.ext E107
  have f111 := A103.ext E107
  have f112 : Fld Z h107 b107 "com/example/stummel/stummel/geometry/PendingCrossings" "byPlace" "[I" .null := D107 (Or.inr (hw _ (List.mem_of_getElem? (i := 17) rfl))) (ty := (.array .int)) (by decide)
  have f113 : Fld Z h107 b107 "com/example/stummel/stummel/geometry/PendingCrossings" "x" "[D" .null := D107 (Or.inr (hw _ (List.mem_of_getElem? (i := 19) rfl))) (ty := (.array .double)) (by decide)
  have f114 : Fld Z h107 b107 "com/example/stummel/stummel/geometry/PendingCrossings" "y" "[D" .null := D107 (Or.inr (hw _ (List.mem_of_getElem? (i := 21) rfl))) (ty := (.array .double)) (by decide)
  have f115 : Fld Z h107 b107 "com/example/stummel/stummel/geometry/PendingCrossings" "firstDue" "[I" .null := D107 (Or.inr (hw _ (List.mem_of_getElem? (i := 23) rfl))) (ty := (.array .int)) (by decide)
  have f116 : Fld Z h107 b107 "com/example/stummel/stummel/geometry/PendingCrossings" "dueAt" "[I" .null := D107 (Or.inr (hw _ (List.mem_of_getElem? (i := 29) rfl))) (ty := (.array .int)) (by decide)
  have f117 : Fld Z h107 b107 "com/example/stummel/stummel/geometry/PendingCrossings" "next" "[I" .null := D107 (Or.inr (hw _ (List.mem_of_getElem? (i := 31) rfl))) (ty := (.array .int)) (by decide)
  have f118 : Fld Z h107 b107 "com/example/stummel/stummel/geometry/PendingCrossings" "previous" "[I" .null := D107 (Or.inr (hw _ (List.mem_of_getElem? (i := 33) rfl))) (ty := (.array .int)) (by decide)
  refine W.s1 (mkF m 77 #[.val (.int y0), .val (.int y1), .val (.int y2), .val (.int y3), .val (.int y4), .val (.int (Int32.ofNat c0.1)), .val (.int (Int32.ofNat c1.1)), .val (.int (Int32.ofNat c2.1)), .val (.int (Int32.ofNat cs.1)), .val (.int (Int32.ofNat cr.1)), .val (.ref z1), .val (.ref z2), .unset] [(.ref b107), (.ref b107)]) (fun _ kx_ => XS.dup X107.here hx rfl (hb hby at_76) rfl rfl kx_) ?_
  refine W.s1 (mkF m 78 #[.val (.int y0), .val (.int y1), .val (.int y2), .val (.int y3), .val (.int y4), .val (.int (Int32.ofNat c0.1)), .val (.int (Int32.ofNat c1.1)), .val (.int (Int32.ofNat c2.1)), .val (.int (Int32.ofNat cs.1)), .val (.int (Int32.ofNat cr.1)), .val (.ref z1), .val (.ref z2), .unset] [(.int (3 : Int32)), (.ref b107), (.ref b107)]) (fun _ kx_ => XS.iconst X107.here hx rfl (hb hby at_77) kx_) ?_
  refine W.s1 (mkF m 79 #[.val (.int y0), .val (.int y1), .val (.int y2), .val (.int y3), .val (.int y4), .val (.int (Int32.ofNat c0.1)), .val (.int (Int32.ofNat c1.1)), .val (.int (Int32.ofNat c2.1)), .val (.int (Int32.ofNat cs.1)), .val (.int (Int32.ofNat cr.1)), .val (.ref z1), .val (.ref z2), .unset] [(.int (2 : Int32)), (.int (3 : Int32)), (.ref b107), (.ref b107)]) (fun _ kx_ => XS.iconst X107.here hx rfl (hb hby at_78) kx_) ?_
  refine W.newi X107 hx hZ (ty := .int) (aty := .int) (hw _ (List.mem_of_getElem? (i := 5) rfl)) rfl rfl e107 (hb hby at_79) (n := 2) rfl (cap := 2) (Nat.le_refl _) (by decide) (by decide) (by decide) (pc' := 81) rfl (fun T119 h119 zb X119 e119 E119 g119 A119 => ?_)
  have ne120 : z1 ≠ zb := Nat.ne_of_lt (Nat.lt_of_lt_of_le f110.lt (Nat.le_of_eq g119.symm))
  have ne121 : z2 ≠ zb := Nat.ne_of_lt (Nat.lt_of_lt_of_le f111.lt (Nat.le_of_eq g119.symm))
  have ne122 : b107 ≠ zb := Nat.ne_of_lt (Nat.lt_of_lt_of_le A107.lt (Nat.le_of_eq g119.symm))
  have ge119 : n0 ≤ zb := Nat.le_trans Z107 (Nat.le_of_eq g119.symm)
  have Z119 : n0 ≤ h119.size := Nat.le_trans Z107 E119.1
  have f123 := f110.ext E119
  have f124 := f111.ext E119
  have f125 := A107.ext E119
  have f126 := f112.ext E119
  have f127 := f113.ext E119
  have f128 := f114.ext E119
  have f129 := f115.ext E119
  have f130 := f116.ext E119
  have f131 := f117.ext E119
  have f132 := f118.ext E119
  refine W.s1 (mkF m 82 #[.val (.int y0), .val (.int y1), .val (.int y2), .val (.int y3), .val (.int y4), .val (.int (Int32.ofNat c0.1)), .val (.int (Int32.ofNat c1.1)), .val (.int (Int32.ofNat c2.1)), .val (.int (Int32.ofNat cs.1)), .val (.int (Int32.ofNat cr.1)), .val (.ref z1), .val (.ref z2), .unset] [(.ref zb), (.ref zb), (.int (3 : Int32)), (.ref b107), (.ref b107)]) (fun _ kx_ => XS.dup X119.here hx rfl (hb hby at_81) rfl rfl kx_) ?_
  refine W.s1 (mkF m 83 #[.val (.int y0), .val (.int y1), .val (.int y2), .val (.int y3), .val (.int y4), .val (.int (Int32.ofNat c0.1)), .val (.int (Int32.ofNat c1.1)), .val (.int (Int32.ofNat c2.1)), .val (.int (Int32.ofNat cs.1)), .val (.int (Int32.ofNat cr.1)), .val (.ref z1), .val (.ref z2), .unset] [(.int (0 : Int32)), (.ref zb), (.ref zb), (.int (3 : Int32)), (.ref b107), (.ref b107)]) (fun _ kx_ => XS.iconst X119.here hx rfl (hb hby at_82) kx_) ?_
  refine W.s1 (mkF m 84 #[.val (.int y0), .val (.int y1), .val (.int y2), .val (.int y3), .val (.int y4), .val (.int (Int32.ofNat c0.1)), .val (.int (Int32.ofNat c1.1)), .val (.int (Int32.ofNat c2.1)), .val (.int (Int32.ofNat cs.1)), .val (.int (Int32.ofNat cr.1)), .val (.ref z1), .val (.ref z2), .unset] [(.int (0 : Int32)), (.int (0 : Int32)), (.ref zb), (.ref zb), (.int (3 : Int32)), (.ref b107), (.ref b107)]) (fun _ kx_ => XS.iconst X119.here hx rfl (hb hby at_83) kx_) ?_
  refine W.sti X119 hx hZ e119 A119 0 rfl (by first | decide | simp) N103 ge119 (hb hby at_84) (pc' := 85) rfl (fun T133 h133 L133 X133 e133 W133 fw133 N133 => ?_)
  have Z133 : n0 ≤ h133.size := Nat.le_trans Z119 (Keep.of_wr W133).1
  have f134 := f123.other W133 ne120
  have f135 := f124.other W133 ne121
  have f136 := f125.wr W133
  have f137 := f126.other W133 (Or.inl ne122)
  have f138 := f127.other W133 (Or.inl ne122)
  have f139 := f128.other W133 (Or.inl ne122)
  have f140 := f129.other W133 (Or.inl ne122)
  have f141 := f130.other W133 (Or.inl ne122)
  have f142 := f131.other W133 (Or.inl ne122)
  have f143 := f132.other W133 (Or.inl ne122)
  refine W.s1 (mkF m 86 #[.val (.int y0), .val (.int y1), .val (.int y2), .val (.int y3), .val (.int y4), .val (.int (Int32.ofNat c0.1)), .val (.int (Int32.ofNat c1.1)), .val (.int (Int32.ofNat c2.1)), .val (.int (Int32.ofNat cs.1)), .val (.int (Int32.ofNat cr.1)), .val (.ref z1), .val (.ref z2), .unset] [(.ref zb), (.ref zb), (.int (3 : Int32)), (.ref b107), (.ref b107)]) (fun _ kx_ => XS.dup X133.here hx rfl (hb hby at_85) rfl rfl kx_) ?_
  refine W.s1 (mkF m 87 #[.val (.int y0), .val (.int y1), .val (.int y2), .val (.int y3), .val (.int y4), .val (.int (Int32.ofNat c0.1)), .val (.int (Int32.ofNat c1.1)), .val (.int (Int32.ofNat c2.1)), .val (.int (Int32.ofNat cs.1)), .val (.int (Int32.ofNat cr.1)), .val (.ref z1), .val (.ref z2), .unset] [(.int (1 : Int32)), (.ref zb), (.ref zb), (.int (3 : Int32)), (.ref b107), (.ref b107)]) (fun _ kx_ => XS.iconst X133.here hx rfl (hb hby at_86) kx_) ?_
  refine W.s1 (mkF m 88 #[.val (.int y0), .val (.int y1), .val (.int y2), .val (.int y3), .val (.int y4), .val (.int (Int32.ofNat c0.1)), .val (.int (Int32.ofNat c1.1)), .val (.int (Int32.ofNat c2.1)), .val (.int (Int32.ofNat cs.1)), .val (.int (Int32.ofNat cr.1)), .val (.ref z1), .val (.ref z2), .unset] [(.int (1 : Int32)), (.int (1 : Int32)), (.ref zb), (.ref zb), (.int (3 : Int32)), (.ref b107), (.ref b107)]) (fun _ kx_ => XS.iconst X133.here hx rfl (hb hby at_87) kx_) ?_
  refine W.sti X133 hx hZ e133 fw133 1 rfl (by first | decide | simp) N133 ge119 (hb hby at_88) (pc' := 89) rfl (fun T144 h144 L144 X144 e144 W144 fw144 N144 => ?_)
  have Z144 : n0 ≤ h144.size := Nat.le_trans Z133 (Keep.of_wr W144).1
  have f145 := f134.other W144 ne120
  have f146 := f135.other W144 ne121
  have f147 := f136.wr W144
  have f148 := f137.other W144 (Or.inl ne122)
  have f149 := f138.other W144 (Or.inl ne122)
  have f150 := f139.other W144 (Or.inl ne122)
  have f151 := f140.other W144 (Or.inl ne122)
  have f152 := f141.other W144 (Or.inl ne122)
  have f153 := f142.other W144 (Or.inl ne122)
  have f154 := f143.other W144 (Or.inl ne122)
  refine W.s1 (mkF m 90 #[.val (.int y0), .val (.int y1), .val (.int y2), .val (.int y3), .val (.int y4), .val (.int (Int32.ofNat c0.1)), .val (.int (Int32.ofNat c1.1)), .val (.int (Int32.ofNat c2.1)), .val (.int (Int32.ofNat cs.1)), .val (.int (Int32.ofNat cr.1)), .val (.ref z1), .val (.ref z2), .unset] [(.int (2 : Int32)), (.ref zb), (.int (3 : Int32)), (.ref b107), (.ref b107)]) (fun _ kx_ => XS.iconst X144.here hx rfl (hb hby at_89) kx_) ?_
  refine W.newd X144 hx hZ (hw _ (List.mem_of_getElem? (i := 9) rfl)) e144 (hb hby at_90) (n := 2) rfl (cap := 2) (Nat.le_refl _) (by decide) (by decide) (by decide) (pc' := 92) rfl (fun T155 h155 zx X155 e155 E155 g155 A155 => ?_)
  have ne156 : z1 ≠ zx := Nat.ne_of_lt (Nat.lt_of_lt_of_le f145.lt (Nat.le_of_eq g155.symm))
  have ne157 : z2 ≠ zx := Nat.ne_of_lt (Nat.lt_of_lt_of_le f146.lt (Nat.le_of_eq g155.symm))
  have ne158 : b107 ≠ zx := Nat.ne_of_lt (Nat.lt_of_lt_of_le f147.lt (Nat.le_of_eq g155.symm))
  have ne159 : zb ≠ zx := Nat.ne_of_lt (Nat.lt_of_lt_of_le fw144.lt (Nat.le_of_eq g155.symm))
  have ge155 : n0 ≤ zx := Nat.le_trans Z144 (Nat.le_of_eq g155.symm)
  have Z155 : n0 ≤ h155.size := Nat.le_trans Z144 E155.1
  have f160 := f145.ext E155
  have f161 := f146.ext E155
  have f162 := f147.ext E155
  have f163 := f148.ext E155
  have f164 := f149.ext E155
  have f165 := f150.ext E155
  have f166 := f151.ext E155
  have f167 := f152.ext E155
  have f168 := f153.ext E155
  have f169 := f154.ext E155
  have f170 := fw144.ext E155
  refine W.s1 (mkF m 93 #[.val (.int y0), .val (.int y1), .val (.int y2), .val (.int y3), .val (.int y4), .val (.int (Int32.ofNat c0.1)), .val (.int (Int32.ofNat c1.1)), .val (.int (Int32.ofNat c2.1)), .val (.int (Int32.ofNat cs.1)), .val (.int (Int32.ofNat cr.1)), .val (.ref z1), .val (.ref z2), .unset] [(.ref zx), (.ref zx), (.ref zb), (.int (3 : Int32)), (.ref b107), (.ref b107)]) (fun _ kx_ => XS.dup X155.here hx rfl (hb hby at_92) rfl rfl kx_) ?_
  refine W.s1 (mkF m 94 #[.val (.int y0), .val (.int y1), .val (.int y2), .val (.int y3), .val (.int y4), .val (.int (Int32.ofNat c0.1)), .val (.int (Int32.ofNat c1.1)), .val (.int (Int32.ofNat c2.1)), .val (.int (Int32.ofNat cs.1)), .val (.int (Int32.ofNat cr.1)), .val (.ref z1), .val (.ref z2), .unset] [(.int (0 : Int32)), (.ref zx), (.ref zx), (.ref zb), (.int (3 : Int32)), (.ref b107), (.ref b107)]) (fun _ kx_ => XS.iconst X155.here hx rfl (hb hby at_93) kx_) ?_
  refine W.s1 (mkF m 95 #[.val (.int y0), .val (.int y1), .val (.int y2), .val (.int y3), .val (.int y4), .val (.int (Int32.ofNat c0.1)), .val (.int (Int32.ofNat c1.1)), .val (.int (Int32.ofNat c2.1)), .val (.int (Int32.ofNat cs.1)), .val (.int (Int32.ofNat cr.1)), .val (.ref z1), .val (.ref z2), .unset] [(.double (FP.l2d (0 : Int64))), (.int (0 : Int32)), (.ref zx), (.ref zx), (.ref zb), (.int (3 : Int32)), (.ref b107), (.ref b107)]) (fun _ kx_ => XS.dconst0 X155.here hx rfl (hb hby at_94) (by decide +kernel) kx_) ?_
  refine W.std X155 hx hZ e155 A155 0 rfl (by first | decide | simp) N144 ge155 (hb hby at_95) (pc' := 96) rfl (fun T171 h171 L171 X171 e171 W171 fw171 N171 => ?_)
  have Z171 : n0 ≤ h171.size := Nat.le_trans Z155 (Keep.of_wr W171).1
  have f172 := f160.other W171 ne156
  have f173 := f161.other W171 ne157
  have f174 := f162.wr W171
  have f175 := f163.other W171 (Or.inl ne158)
  have f176 := f164.other W171 (Or.inl ne158)
  have f177 := f165.other W171 (Or.inl ne158)
  have f178 := f166.other W171 (Or.inl ne158)
  have f179 := f167.other W171 (Or.inl ne158)
  have f180 := f168.other W171 (Or.inl ne158)
  have f181 := f169.other W171 (Or.inl ne158)
  have f182 := f170.other W171 ne159
  refine W.s1 (mkF m 97 #[.val (.int y0), .val (.int y1), .val (.int y2), .val (.int y3), .val (.int y4), .val (.int (Int32.ofNat c0.1)), .val (.int (Int32.ofNat c1.1)), .val (.int (Int32.ofNat c2.1)), .val (.int (Int32.ofNat cs.1)), .val (.int (Int32.ofNat cr.1)), .val (.ref z1), .val (.ref z2), .unset] [(.ref zx), (.ref zx), (.ref zb), (.int (3 : Int32)), (.ref b107), (.ref b107)]) (fun _ kx_ => XS.dup X171.here hx rfl (hb hby at_96) rfl rfl kx_) ?_
  refine W.s1 (mkF m 98 #[.val (.int y0), .val (.int y1), .val (.int y2), .val (.int y3), .val (.int y4), .val (.int (Int32.ofNat c0.1)), .val (.int (Int32.ofNat c1.1)), .val (.int (Int32.ofNat c2.1)), .val (.int (Int32.ofNat cs.1)), .val (.int (Int32.ofNat cr.1)), .val (.ref z1), .val (.ref z2), .unset] [(.int (1 : Int32)), (.ref zx), (.ref zx), (.ref zb), (.int (3 : Int32)), (.ref b107), (.ref b107)]) (fun _ kx_ => XS.iconst X171.here hx rfl (hb hby at_97) kx_) ?_
  refine W.s1 (mkF m 99 #[.val (.int y0), .val (.int y1), .val (.int y2), .val (.int y3), .val (.int y4), .val (.int (Int32.ofNat c0.1)), .val (.int (Int32.ofNat c1.1)), .val (.int (Int32.ofNat c2.1)), .val (.int (Int32.ofNat cs.1)), .val (.int (Int32.ofNat cr.1)), .val (.ref z1), .val (.ref z2), .unset] [(.double (FP.l2d (1 : Int64))), (.int (1 : Int32)), (.ref zx), (.ref zx), (.ref zb), (.int (3 : Int32)), (.ref b107), (.ref b107)]) (fun _ kx_ => XS.dconst1 X171.here hx rfl (hb hby at_98) (by decide +kernel) kx_) ?_
  refine W.std X171 hx hZ e171 fw171 1 rfl (by first | decide | simp) N171 ge155 (hb hby at_99) (pc' := 100) rfl (fun T183 h183 L183 X183 e183 W183 fw183 N183 => ?_)
  have Z183 : n0 ≤ h183.size := Nat.le_trans Z171 (Keep.of_wr W183).1
  have f184 := f172.other W183 ne156
  have f185 := f173.other W183 ne157
  have f186 := f174.wr W183
  have f187 := f175.other W183 (Or.inl ne158)
  have f188 := f176.other W183 (Or.inl ne158)
  have f189 := f177.other W183 (Or.inl ne158)
  have f190 := f178.other W183 (Or.inl ne158)
  have f191 := f179.other W183 (Or.inl ne158)
  have f192 := f180.other W183 (Or.inl ne158)
  have f193 := f181.other W183 (Or.inl ne158)
  have f194 := f182.other W183 ne159
  refine W.s1 (mkF m 101 #[.val (.int y0), .val (.int y1), .val (.int y2), .val (.int y3), .val (.int y4), .val (.int (Int32.ofNat c0.1)), .val (.int (Int32.ofNat c1.1)), .val (.int (Int32.ofNat c2.1)), .val (.int (Int32.ofNat cs.1)), .val (.int (Int32.ofNat cr.1)), .val (.ref z1), .val (.ref z2), .unset] [(.int (2 : Int32)), (.ref zx), (.ref zb), (.int (3 : Int32)), (.ref b107), (.ref b107)]) (fun _ kx_ => XS.iconst X183.here hx rfl (hb hby at_100) kx_) ?_
  refine W.newd X183 hx hZ (hw _ (List.mem_of_getElem? (i := 9) rfl)) e183 (hb hby at_101) (n := 2) rfl (cap := 2) (Nat.le_refl _) (by decide) (by decide) (by decide) (pc' := 103) rfl (fun T195 h195 zy X195 e195 E195 g195 A195 => ?_)
  have ne196 : z1 ≠ zy := Nat.ne_of_lt (Nat.lt_of_lt_of_le f184.lt (Nat.le_of_eq g195.symm))
  have ne197 : z2 ≠ zy := Nat.ne_of_lt (Nat.lt_of_lt_of_le f185.lt (Nat.le_of_eq g195.symm))
  have ne198 : b107 ≠ zy := Nat.ne_of_lt (Nat.lt_of_lt_of_le f186.lt (Nat.le_of_eq g195.symm))
  have ne199 : zb ≠ zy := Nat.ne_of_lt (Nat.lt_of_lt_of_le f194.lt (Nat.le_of_eq g195.symm))
  have ne200 : zx ≠ zy := Nat.ne_of_lt (Nat.lt_of_lt_of_le fw183.lt (Nat.le_of_eq g195.symm))
  have ge195 : n0 ≤ zy := Nat.le_trans Z183 (Nat.le_of_eq g195.symm)
  have Z195 : n0 ≤ h195.size := Nat.le_trans Z183 E195.1
  have f201 := f184.ext E195
  have f202 := f185.ext E195
  have f203 := f186.ext E195
  have f204 := f187.ext E195
  have f205 := f188.ext E195
  have f206 := f189.ext E195
  have f207 := f190.ext E195
  have f208 := f191.ext E195
  have f209 := f192.ext E195
  have f210 := f193.ext E195
  have f211 := f194.ext E195
  have f212 := fw183.ext E195
  refine W.s1 (mkF m 104 #[.val (.int y0), .val (.int y1), .val (.int y2), .val (.int y3), .val (.int y4), .val (.int (Int32.ofNat c0.1)), .val (.int (Int32.ofNat c1.1)), .val (.int (Int32.ofNat c2.1)), .val (.int (Int32.ofNat cs.1)), .val (.int (Int32.ofNat cr.1)), .val (.ref z1), .val (.ref z2), .unset] [(.ref zy), (.ref zy), (.ref zx), (.ref zb), (.int (3 : Int32)), (.ref b107), (.ref b107)]) (fun _ kx_ => XS.dup X195.here hx rfl (hb hby at_103) rfl rfl kx_) ?_
  refine W.s1 (mkF m 105 #[.val (.int y0), .val (.int y1), .val (.int y2), .val (.int y3), .val (.int y4), .val (.int (Int32.ofNat c0.1)), .val (.int (Int32.ofNat c1.1)), .val (.int (Int32.ofNat c2.1)), .val (.int (Int32.ofNat cs.1)), .val (.int (Int32.ofNat cr.1)), .val (.ref z1), .val (.ref z2), .unset] [(.int (0 : Int32)), (.ref zy), (.ref zy), (.ref zx), (.ref zb), (.int (3 : Int32)), (.ref b107), (.ref b107)]) (fun _ kx_ => XS.iconst X195.here hx rfl (hb hby at_104) kx_) ?_
  refine W.s1 (mkF m 106 #[.val (.int y0), .val (.int y1), .val (.int y2), .val (.int y3), .val (.int y4), .val (.int (Int32.ofNat c0.1)), .val (.int (Int32.ofNat c1.1)), .val (.int (Int32.ofNat c2.1)), .val (.int (Int32.ofNat cs.1)), .val (.int (Int32.ofNat cr.1)), .val (.ref z1), .val (.ref z2), .unset] [(.double (FP.l2d (0 : Int64))), (.int (0 : Int32)), (.ref zy), (.ref zy), (.ref zx), (.ref zb), (.int (3 : Int32)), (.ref b107), (.ref b107)]) (fun _ kx_ => XS.dconst0 X195.here hx rfl (hb hby at_105) (by decide +kernel) kx_) ?_
  refine W.std X195 hx hZ e195 A195 0 rfl (by first | decide | simp) N183 ge195 (hb hby at_106) (pc' := 107) rfl (fun T213 h213 L213 X213 e213 W213 fw213 N213 => ?_)
  have Z213 : n0 ≤ h213.size := Nat.le_trans Z195 (Keep.of_wr W213).1
  have f214 := f201.other W213 ne196
  have f215 := f202.other W213 ne197
  have f216 := f203.wr W213
  have f217 := f204.other W213 (Or.inl ne198)
  have f218 := f205.other W213 (Or.inl ne198)
  have f219 := f206.other W213 (Or.inl ne198)
  have f220 := f207.other W213 (Or.inl ne198)
  have f221 := f208.other W213 (Or.inl ne198)
  have f222 := f209.other W213 (Or.inl ne198)
  have f223 := f210.other W213 (Or.inl ne198)
  have f224 := f211.other W213 ne199
  have f225 := f212.other W213 ne200
  refine W.s1 (mkF m 108 #[.val (.int y0), .val (.int y1), .val (.int y2), .val (.int y3), .val (.int y4), .val (.int (Int32.ofNat c0.1)), .val (.int (Int32.ofNat c1.1)), .val (.int (Int32.ofNat c2.1)), .val (.int (Int32.ofNat cs.1)), .val (.int (Int32.ofNat cr.1)), .val (.ref z1), .val (.ref z2), .unset] [(.ref zy), (.ref zy), (.ref zx), (.ref zb), (.int (3 : Int32)), (.ref b107), (.ref b107)]) (fun _ kx_ => XS.dup X213.here hx rfl (hb hby at_107) rfl rfl kx_) ?_
  refine W.s1 (mkF m 109 #[.val (.int y0), .val (.int y1), .val (.int y2), .val (.int y3), .val (.int y4), .val (.int (Int32.ofNat c0.1)), .val (.int (Int32.ofNat c1.1)), .val (.int (Int32.ofNat c2.1)), .val (.int (Int32.ofNat cs.1)), .val (.int (Int32.ofNat cr.1)), .val (.ref z1), .val (.ref z2), .unset] [(.int (1 : Int32)), (.ref zy), (.ref zy), (.ref zx), (.ref zb), (.int (3 : Int32)), (.ref b107), (.ref b107)]) (fun _ kx_ => XS.iconst X213.here hx rfl (hb hby at_108) kx_) ?_
  refine W.s1 (mkF m 110 #[.val (.int y0), .val (.int y1), .val (.int y2), .val (.int y3), .val (.int y4), .val (.int (Int32.ofNat c0.1)), .val (.int (Int32.ofNat c1.1)), .val (.int (Int32.ofNat c2.1)), .val (.int (Int32.ofNat cs.1)), .val (.int (Int32.ofNat cr.1)), .val (.ref z1), .val (.ref z2), .unset] [(.double (FP.l2d (0 : Int64))), (.int (1 : Int32)), (.ref zy), (.ref zy), (.ref zx), (.ref zb), (.int (3 : Int32)), (.ref b107), (.ref b107)]) (fun _ kx_ => XS.dconst0 X213.here hx rfl (hb hby at_109) (by decide +kernel) kx_) ?_
  refine W.std X213 hx hZ e213 fw213 1 rfl (by first | decide | simp) N213 ge195 (hb hby at_110) (pc' := 111) rfl (fun T226 h226 L226 X226 e226 W226 fw226 N226 => ?_)
  have Z226 : n0 ≤ h226.size := Nat.le_trans Z213 (Keep.of_wr W226).1
  have f227 := f214.other W226 ne196
  have f228 := f215.other W226 ne197
  have f229 := f216.wr W226
  have f230 := f217.other W226 (Or.inl ne198)
  have f231 := f218.other W226 (Or.inl ne198)
  have f232 := f219.other W226 (Or.inl ne198)
  have f233 := f220.other W226 (Or.inl ne198)
  have f234 := f221.other W226 (Or.inl ne198)
  have f235 := f222.other W226 (Or.inl ne198)
  have f236 := f223.other W226 (Or.inl ne198)
  have f237 := f224.other W226 ne199
  have f238 := f225.other W226 ne200
  obtain ⟨_, _, ⟨T239, L239, k239, n239⟩, -, X239, ⟨Lc239, hQ239, l239, y239, z239⟩, st239⟩ := X226.specialBack hx (y := (⟨"com/example/stummel/stummel/geometry/PendingCrossings", "<init>", "(I[I[D[D)V"⟩ : MethodName)) rfl hown (mvT hZ (hw _ (List.mem_of_getElem? (i := 10) rfl))) (mvT hZ (hw _ (List.mem_of_getElem? (i := 11) rfl))) (mvT hZ (hw _ (List.mem_of_getElem? (i := 12) rfl))) (by decide) (backOf (W := 1) (rm2 l Z a0 hw [] b107 zb zx zy .null .null .null .null .null .null .null h226 n0 Z226 f229 f230 f231 f232 f233 f234 f235 f236 ge107 ge119 ge155 ge195 f237 f238 fw226 ne122 ne158 ne198 ne159 ne199 ne200) hZ (hw _ (List.mem_of_getElem? (i := 12) rfl)) (hw _ (List.mem_of_getElem? (i := 8) rfl)) (by decide) (by decide)) (g := (mkF m 111 #[.val (.int y0), .val (.int y1), .val (.int y2), .val (.int y3), .val (.int y4), .val (.int (Int32.ofNat c0.1)), .val (.int (Int32.ofNat c1.1)), .val (.int (Int32.ofNat c2.1)), .val (.int (Int32.ofNat cs.1)), .val (.int (Int32.ofNat cr.1)), .val (.ref z1), .val (.ref z2), .unset] [(.ref zy), (.ref zx), (.ref zb), (.int (3 : Int32)), (.ref b107), (.ref b107)])) rfl (by rw [hml]; rfl) (Steps.refl _) (a := b107) (argsL := [(.int (3 : Int32)), (.ref zb), (.ref zx), (.ref zy)]) (rest := [(.ref b107)]) (lenOf pd_7 rfl) rfl (by show 2 * 0 + _ ≤ _; exact Nat.le_of_eq rfl) (hb hby at_111) (fun _ _ => ⟨rfl, e226, (by decide : 6 + 4 ≤ _), (by decide : 19 + 11 ≤ _)⟩)
  dsimp only [Pt.U, Pt.locs, Pt.cells, Pt.slots] at X239 l239 y239 z239 st239 hQ239
  subst l239 y239 z239
  obtain ⟨h239, e239⟩ : ∃ z, T239.heap = z := ⟨_, rfl⟩
  rw [e239] at hQ239
  obtain ⟨rfl, Nq239, Kq239, zf, zd, zn, zp, hs_zf, hs_zd, hs_zn, hs_zp, ho, hge, H239⟩ := hQ239
  have N239 := Fr.app N226 Nq239
  have Z239 : n0 ≤ h239.size := Nat.le_trans Z226 Kq239.1
  have f240 := f227.keep Kq239 (ninS ne108 nin0)
  have f241 := f228.keep Kq239 (ninS ne109 nin0)
  have f242 := f229.keep Kq239
  have f250 := f237.keep Kq239 (ninS (Ne.symm ne122) nin0)
  have f251 := f238.keep Kq239 (ninS (Ne.symm ne158) nin0)
  have f252 := fw226.keep Kq239 (ninS (Ne.symm ne198) nin0)
  have nb_z1 : own_nb z1 b107 zb zx zy zf zd zn zp := ⟨ne108, ne120, ne156, ne196, Nat.ne_of_lt (Nat.lt_of_lt_of_le f227.lt hs_zf), Nat.ne_of_lt (Nat.lt_of_lt_of_le f227.lt hs_zd), Nat.ne_of_lt (Nat.lt_of_lt_of_le f227.lt hs_zn), Nat.ne_of_lt (Nat.lt_of_lt_of_le f227.lt hs_zp)⟩
  have nb_z2 : own_nb z2 b107 zb zx zy zf zd zn zp := ⟨ne109, ne121, ne157, ne197, Nat.ne_of_lt (Nat.lt_of_lt_of_le f228.lt hs_zf), Nat.ne_of_lt (Nat.lt_of_lt_of_le f228.lt hs_zd), Nat.ne_of_lt (Nat.lt_of_lt_of_le f228.lt hs_zn), Nat.ne_of_lt (Nat.lt_of_lt_of_le f228.lt hs_zp)⟩
  refine W.s3 (mkF m 114 #[.val (.int y0), .val (.int y1), .val (.int y2), .val (.int y3), .val (.int y4), .val (.int (Int32.ofNat c0.1)), .val (.int (Int32.ofNat c1.1)), .val (.int (Int32.ofNat c2.1)), .val (.int (Int32.ofNat cs.1)), .val (.int (Int32.ofNat cr.1)), .val (.ref z1), .val (.ref z2), .unset] [(.ref b107)]) st239 ?_
  refine W.s1 (mkF m 116 #[.val (.int y0), .val (.int y1), .val (.int y2), .val (.int y3), .val (.int y4), .val (.int (Int32.ofNat c0.1)), .val (.int (Int32.ofNat c1.1)), .val (.int (Int32.ofNat c2.1)), .val (.int (Int32.ofNat cs.1)), .val (.int (Int32.ofNat cr.1)), .val (.ref z1), .val (.ref z2), .val (.ref b107)] []) (fun _ kx_ => XS.astore X239.here hx rfl (hb hby at_114) rfl rfl (l' := #[.val (.int y0), .val (.int y1), .val (.int y2), .val (.int y3), .val (.int y4), .val (.int (Int32.ofNat c0.1)), .val (.int (Int32.ofNat c1.1)), .val (.int (Int32.ofNat c2.1)), .val (.int (Int32.ofNat cs.1)), .val (.int (Int32.ofNat cr.1)), .val (.ref z1), .val (.ref z2), .val (.ref b107)]) rfl kx_) ?_
  refine W.s1 (mkF m 118 #[.val (.int y0), .val (.int y1), .val (.int y2), .val (.int y3), .val (.int y4), .val (.int (Int32.ofNat c0.1)), .val (.int (Int32.ofNat c1.1)), .val (.int (Int32.ofNat c2.1)), .val (.int (Int32.ofNat cs.1)), .val (.int (Int32.ofNat cr.1)), .val (.ref z1), .val (.ref z2), .val (.ref b107)] [(.ref b107)]) (fun _ kx_ => XS.aload X239.here hx rfl (hb hby at_116) rfl rfl kx_) ?_
  refine W.s1 (mkF m 119 #[.val (.int y0), .val (.int y1), .val (.int y2), .val (.int y3), .val (.int y4), .val (.int (Int32.ofNat c0.1)), .val (.int (Int32.ofNat c1.1)), .val (.int (Int32.ofNat c2.1)), .val (.int (Int32.ofNat cs.1)), .val (.int (Int32.ofNat cr.1)), .val (.ref z1), .val (.ref z2), .val (.ref b107)] [(.int (0 : Int32)), (.ref b107)]) (fun _ kx_ => XS.iconst X239.here hx rfl (hb hby at_118) kx_) ?_
  refine W.s1 (mkF m 121 #[.val (.int y0), .val (.int y1), .val (.int y2), .val (.int y3), .val (.int y4), .val (.int (Int32.ofNat c0.1)), .val (.int (Int32.ofNat c1.1)), .val (.int (Int32.ofNat c2.1)), .val (.int (Int32.ofNat cs.1)), .val (.int (Int32.ofNat cr.1)), .val (.ref z1), .val (.ref z2), .val (.ref b107)] [(.int (Int32.ofNat c0.1)), (.int (0 : Int32)), (.ref b107)]) (fun _ kx_ => XS.iload X239.here hx rfl (hb hby at_119) rfl kx_) ?_
  obtain ⟨_, _, ⟨T253, L253, k253, n253⟩, -, X253, ⟨Lc253, hQ253, l253, y253, z253⟩, st253⟩ := Jvm.LawKit.callS X239 hx (y := (⟨"com/example/stummel/stummel/geometry/PendingCrossingsCancelPinLaw", "addIf", "(Lcom/example/stummel/stummel/geometry/PendingCrossings;II)V"⟩ : MethodName)) hown (mvT hZ (hw _ (List.mem_of_getElem? (i := 34) rfl))) (mvT hZ (hw _ (List.mem_of_getElem? (i := 35) rfl))) (mvT hZ (hw _ (List.mem_of_getElem? (i := 3) rfl))) (mvT hZ (hw _ (List.mem_of_getElem? (i := 36) rfl))) (by decide) (backOf (W := 0) (rm_aif l Z a0 hw [] b107 (0 : Int32) (Int32.ofNat c0.1) zb zx zy zf zd zn zp own_s0 0 h239 n0 Z239 H239 ho hge rfl (by decide) (own_v1 c0) (own_012 c0)) hZ (hw _ (List.mem_of_getElem? (i := 36) rfl)) (hw _ (List.mem_of_getElem? (i := 3) rfl)) (by decide) (by decide)) (g := (mkF m 121 #[.val (.int y0), .val (.int y1), .val (.int y2), .val (.int y3), .val (.int y4), .val (.int (Int32.ofNat c0.1)), .val (.int (Int32.ofNat c1.1)), .val (.int (Int32.ofNat c2.1)), .val (.int (Int32.ofNat cs.1)), .val (.int (Int32.ofNat cr.1)), .val (.ref z1), .val (.ref z2), .val (.ref b107)] [(.int (Int32.ofNat c0.1)), (.int (0 : Int32)), (.ref b107)])) rfl (by rw [hml]; rfl) (argsL := [(.ref b107), (.int (0 : Int32)), (.int (Int32.ofNat c0.1))]) (rest := []) (lenOf pd_8 rfl) rfl (by show 2 * 0 + _ ≤ _; exact Nat.le_of_eq rfl) (hb hby at_121) (fun _ _ => ⟨rfl, e239, (by decide : 10 + 0 ≤ _), (by decide : 30 + 0 ≤ _)⟩)
  dsimp only [Pt.U, Pt.locs, Pt.cells, Pt.slots] at X253 l253 y253 z253 st253 hQ253
  subst l253 y253 z253
  obtain ⟨h253, e253⟩ : ∃ z, T253.heap = z := ⟨_, rfl⟩
  rw [e253] at hQ253
  obtain ⟨rfl, Nq253, Kq253, H253⟩ := hQ253
  have N253 := Fr.app N239 Nq253
  have Z253 : n0 ≤ h253.size := Nat.le_trans Z239 Kq253.1
  have f254 := f240.keep Kq253 (ninS nb_z1.2.2.2.2.1 (ninS nb_z1.2.2.2.2.2.1 (ninS nb_z1.2.2.2.2.2.2.1 (ninS nb_z1.2.2.2.2.2.2.2 nin0))))
  have f255 := f241.keep Kq253 (ninS nb_z2.2.2.2.2.1 (ninS nb_z2.2.2.2.2.2.1 (ninS nb_z2.2.2.2.2.2.2.1 (ninS nb_z2.2.2.2.2.2.2.2 nin0))))
  have f256 := f242.keep Kq253
  have f257 := f250.keep Kq253 (ninS ho.2.2.2.2.2.2.2.2.2.1 (ninS ho.2.2.2.2.2.2.2.2.2.2.1 (ninS ho.2.2.2.2.2.2.2.2.2.2.2.1 (ninS ho.2.2.2.2.2.2.2.2.2.2.2.2.1 nin0))))
  have f258 := f251.keep Kq253 (ninS ho.2.2.2.2.2.2.2.2.2.2.2.2.2.2.1 (ninS ho.2.2.2.2.2.2.2.2.2.2.2.2.2.2.2.1 (ninS ho.2.2.2.2.2.2.2.2.2.2.2.2.2.2.2.2.1 (ninS ho.2.2.2.2.2.2.2.2.2.2.2.2.2.2.2.2.2.1 nin0))))
  have f259 := f252.keep Kq253 (ninS ho.2.2.2.2.2.2.2.2.2.2.2.2.2.2.2.2.2.2.1 (ninS ho.2.2.2.2.2.2.2.2.2.2.2.2.2.2.2.2.2.2.2.1 (ninS ho.2.2.2.2.2.2.2.2.2.2.2.2.2.2.2.2.2.2.2.2.1 (ninS ho.2.2.2.2.2.2.2.2.2.2.2.2.2.2.2.2.2.2.2.2.2.1 nin0))))
  refine W.s2 (mkF m 124 #[.val (.int y0), .val (.int y1), .val (.int y2), .val (.int y3), .val (.int y4), .val (.int (Int32.ofNat c0.1)), .val (.int (Int32.ofNat c1.1)), .val (.int (Int32.ofNat c2.1)), .val (.int (Int32.ofNat cs.1)), .val (.int (Int32.ofNat cr.1)), .val (.ref z1), .val (.ref z2), .val (.ref b107)] []) st253 ?_
  refine W.s1 (mkF m 126 #[.val (.int y0), .val (.int y1), .val (.int y2), .val (.int y3), .val (.int y4), .val (.int (Int32.ofNat c0.1)), .val (.int (Int32.ofNat c1.1)), .val (.int (Int32.ofNat c2.1)), .val (.int (Int32.ofNat cs.1)), .val (.int (Int32.ofNat cr.1)), .val (.ref z1), .val (.ref z2), .val (.ref b107)] [(.ref b107)]) (fun _ kx_ => XS.aload X253.here hx rfl (hb hby at_124) rfl rfl kx_) ?_
  refine W.s1 (mkF m 127 #[.val (.int y0), .val (.int y1), .val (.int y2), .val (.int y3), .val (.int y4), .val (.int (Int32.ofNat c0.1)), .val (.int (Int32.ofNat c1.1)), .val (.int (Int32.ofNat c2.1)), .val (.int (Int32.ofNat cs.1)), .val (.int (Int32.ofNat cr.1)), .val (.ref z1), .val (.ref z2), .val (.ref b107)] [(.int (1 : Int32)), (.ref b107)]) (fun _ kx_ => XS.iconst X253.here hx rfl (hb hby at_126) kx_) ?_
  refine W.s1 (mkF m 129 #[.val (.int y0), .val (.int y1), .val (.int y2), .val (.int y3), .val (.int y4), .val (.int (Int32.ofNat c0.1)), .val (.int (Int32.ofNat c1.1)), .val (.int (Int32.ofNat c2.1)), .val (.int (Int32.ofNat cs.1)), .val (.int (Int32.ofNat cr.1)), .val (.ref z1), .val (.ref z2), .val (.ref b107)] [(.int (Int32.ofNat c1.1)), (.int (1 : Int32)), (.ref b107)]) (fun _ kx_ => XS.iload X253.here hx rfl (hb hby at_127) rfl kx_) ?_
  obtain ⟨_, _, ⟨T260, L260, k260, n260⟩, -, X260, ⟨Lc260, hQ260, l260, y260, z260⟩, st260⟩ := Jvm.LawKit.callS X253 hx (y := (⟨"com/example/stummel/stummel/geometry/PendingCrossingsCancelPinLaw", "addIf", "(Lcom/example/stummel/stummel/geometry/PendingCrossings;II)V"⟩ : MethodName)) hown (mvT hZ (hw _ (List.mem_of_getElem? (i := 34) rfl))) (mvT hZ (hw _ (List.mem_of_getElem? (i := 35) rfl))) (mvT hZ (hw _ (List.mem_of_getElem? (i := 3) rfl))) (mvT hZ (hw _ (List.mem_of_getElem? (i := 36) rfl))) (by decide) (backOf (W := 0) (rm_aif l Z a0 hw [] b107 (1 : Int32) (Int32.ofNat c1.1) zb zx zy zf zd zn zp (own_s1 c0) 1 h253 n0 Z253 H253 ho hge rfl (by decide) (own_v2 c0 c1) (own_012 c1)) hZ (hw _ (List.mem_of_getElem? (i := 36) rfl)) (hw _ (List.mem_of_getElem? (i := 3) rfl)) (by decide) (by decide)) (g := (mkF m 129 #[.val (.int y0), .val (.int y1), .val (.int y2), .val (.int y3), .val (.int y4), .val (.int (Int32.ofNat c0.1)), .val (.int (Int32.ofNat c1.1)), .val (.int (Int32.ofNat c2.1)), .val (.int (Int32.ofNat cs.1)), .val (.int (Int32.ofNat cr.1)), .val (.ref z1), .val (.ref z2), .val (.ref b107)] [(.int (Int32.ofNat c1.1)), (.int (1 : Int32)), (.ref b107)])) rfl (by rw [hml]; rfl) (argsL := [(.ref b107), (.int (1 : Int32)), (.int (Int32.ofNat c1.1))]) (rest := []) (lenOf pd_8 rfl) rfl (by show 2 * 0 + _ ≤ _; exact Nat.le_of_eq rfl) (hb hby at_129) (fun _ _ => ⟨rfl, e253, (by decide : 10 + 0 ≤ _), (by decide : 30 + 0 ≤ _)⟩)
  dsimp only [Pt.U, Pt.locs, Pt.cells, Pt.slots] at X260 l260 y260 z260 st260 hQ260
  subst l260 y260 z260
  obtain ⟨h260, e260⟩ : ∃ z, T260.heap = z := ⟨_, rfl⟩
  rw [e260] at hQ260
  obtain ⟨rfl, Nq260, Kq260, H260⟩ := hQ260
  have N260 := Fr.app N253 Nq260
  have Z260 : n0 ≤ h260.size := Nat.le_trans Z253 Kq260.1
  have f261 := f254.keep Kq260 (ninS nb_z1.2.2.2.2.1 (ninS nb_z1.2.2.2.2.2.1 (ninS nb_z1.2.2.2.2.2.2.1 (ninS nb_z1.2.2.2.2.2.2.2 nin0))))
  have f262 := f255.keep Kq260 (ninS nb_z2.2.2.2.2.1 (ninS nb_z2.2.2.2.2.2.1 (ninS nb_z2.2.2.2.2.2.2.1 (ninS nb_z2.2.2.2.2.2.2.2 nin0))))
  have f263 := f256.keep Kq260
  have f264 := f257.keep Kq260 (ninS ho.2.2.2.2.2.2.2.2.2.1 (ninS ho.2.2.2.2.2.2.2.2.2.2.1 (ninS ho.2.2.2.2.2.2.2.2.2.2.2.1 (ninS ho.2.2.2.2.2.2.2.2.2.2.2.2.1 nin0))))
  have f265 := f258.keep Kq260 (ninS ho.2.2.2.2.2.2.2.2.2.2.2.2.2.2.1 (ninS ho.2.2.2.2.2.2.2.2.2.2.2.2.2.2.2.1 (ninS ho.2.2.2.2.2.2.2.2.2.2.2.2.2.2.2.2.1 (ninS ho.2.2.2.2.2.2.2.2.2.2.2.2.2.2.2.2.2.1 nin0))))
  have f266 := f259.keep Kq260 (ninS ho.2.2.2.2.2.2.2.2.2.2.2.2.2.2.2.2.2.2.1 (ninS ho.2.2.2.2.2.2.2.2.2.2.2.2.2.2.2.2.2.2.2.1 (ninS ho.2.2.2.2.2.2.2.2.2.2.2.2.2.2.2.2.2.2.2.2.1 (ninS ho.2.2.2.2.2.2.2.2.2.2.2.2.2.2.2.2.2.2.2.2.2.1 nin0))))
  refine W.s2 (mkF m 132 #[.val (.int y0), .val (.int y1), .val (.int y2), .val (.int y3), .val (.int y4), .val (.int (Int32.ofNat c0.1)), .val (.int (Int32.ofNat c1.1)), .val (.int (Int32.ofNat c2.1)), .val (.int (Int32.ofNat cs.1)), .val (.int (Int32.ofNat cr.1)), .val (.ref z1), .val (.ref z2), .val (.ref b107)] []) st260 ?_
  refine W.s1 (mkF m 134 #[.val (.int y0), .val (.int y1), .val (.int y2), .val (.int y3), .val (.int y4), .val (.int (Int32.ofNat c0.1)), .val (.int (Int32.ofNat c1.1)), .val (.int (Int32.ofNat c2.1)), .val (.int (Int32.ofNat cs.1)), .val (.int (Int32.ofNat cr.1)), .val (.ref z1), .val (.ref z2), .val (.ref b107)] [(.ref b107)]) (fun _ kx_ => XS.aload X260.here hx rfl (hb hby at_132) rfl rfl kx_) ?_
  refine W.s1 (mkF m 135 #[.val (.int y0), .val (.int y1), .val (.int y2), .val (.int y3), .val (.int y4), .val (.int (Int32.ofNat c0.1)), .val (.int (Int32.ofNat c1.1)), .val (.int (Int32.ofNat c2.1)), .val (.int (Int32.ofNat cs.1)), .val (.int (Int32.ofNat cr.1)), .val (.ref z1), .val (.ref z2), .val (.ref b107)] [(.int (2 : Int32)), (.ref b107)]) (fun _ kx_ => XS.iconst X260.here hx rfl (hb hby at_134) kx_) ?_
  refine W.s1 (mkF m 137 #[.val (.int y0), .val (.int y1), .val (.int y2), .val (.int y3), .val (.int y4), .val (.int (Int32.ofNat c0.1)), .val (.int (Int32.ofNat c1.1)), .val (.int (Int32.ofNat c2.1)), .val (.int (Int32.ofNat cs.1)), .val (.int (Int32.ofNat cr.1)), .val (.ref z1), .val (.ref z2), .val (.ref b107)] [(.int (Int32.ofNat c2.1)), (.int (2 : Int32)), (.ref b107)]) (fun _ kx_ => XS.iload X260.here hx rfl (hb hby at_135) rfl kx_) ?_
  obtain ⟨_, _, ⟨T267, L267, k267, n267⟩, -, X267, ⟨Lc267, hQ267, l267, y267, z267⟩, st267⟩ := Jvm.LawKit.callS X260 hx (y := (⟨"com/example/stummel/stummel/geometry/PendingCrossingsCancelPinLaw", "addIf", "(Lcom/example/stummel/stummel/geometry/PendingCrossings;II)V"⟩ : MethodName)) hown (mvT hZ (hw _ (List.mem_of_getElem? (i := 34) rfl))) (mvT hZ (hw _ (List.mem_of_getElem? (i := 35) rfl))) (mvT hZ (hw _ (List.mem_of_getElem? (i := 3) rfl))) (mvT hZ (hw _ (List.mem_of_getElem? (i := 36) rfl))) (by decide) (backOf (W := 0) (rm_aif l Z a0 hw [] b107 (2 : Int32) (Int32.ofNat c2.1) zb zx zy zf zd zn zp (own_s2 c0 c1) 2 h260 n0 Z260 H260 ho hge rfl (by decide) (own_v3 c0 c1 c2) (own_012 c2)) hZ (hw _ (List.mem_of_getElem? (i := 36) rfl)) (hw _ (List.mem_of_getElem? (i := 3) rfl)) (by decide) (by decide)) (g := (mkF m 137 #[.val (.int y0), .val (.int y1), .val (.int y2), .val (.int y3), .val (.int y4), .val (.int (Int32.ofNat c0.1)), .val (.int (Int32.ofNat c1.1)), .val (.int (Int32.ofNat c2.1)), .val (.int (Int32.ofNat cs.1)), .val (.int (Int32.ofNat cr.1)), .val (.ref z1), .val (.ref z2), .val (.ref b107)] [(.int (Int32.ofNat c2.1)), (.int (2 : Int32)), (.ref b107)])) rfl (by rw [hml]; rfl) (argsL := [(.ref b107), (.int (2 : Int32)), (.int (Int32.ofNat c2.1))]) (rest := []) (lenOf pd_8 rfl) rfl (by show 2 * 0 + _ ≤ _; exact Nat.le_of_eq rfl) (hb hby at_137) (fun _ _ => ⟨rfl, e260, (by decide : 10 + 0 ≤ _), (by decide : 30 + 0 ≤ _)⟩)
  dsimp only [Pt.U, Pt.locs, Pt.cells, Pt.slots] at X267 l267 y267 z267 st267 hQ267
  subst l267 y267 z267
  obtain ⟨h267, e267⟩ : ∃ z, T267.heap = z := ⟨_, rfl⟩
  rw [e267] at hQ267
  obtain ⟨rfl, Nq267, Kq267, H267⟩ := hQ267
  have N267 := Fr.app N260 Nq267
  have Z267 : n0 ≤ h267.size := Nat.le_trans Z260 Kq267.1
  have f268 := f261.keep Kq267 (ninS nb_z1.2.2.2.2.1 (ninS nb_z1.2.2.2.2.2.1 (ninS nb_z1.2.2.2.2.2.2.1 (ninS nb_z1.2.2.2.2.2.2.2 nin0))))
  have f269 := f262.keep Kq267 (ninS nb_z2.2.2.2.2.1 (ninS nb_z2.2.2.2.2.2.1 (ninS nb_z2.2.2.2.2.2.2.1 (ninS nb_z2.2.2.2.2.2.2.2 nin0))))
  have f270 := f263.keep Kq267
  have f271 := f264.keep Kq267 (ninS ho.2.2.2.2.2.2.2.2.2.1 (ninS ho.2.2.2.2.2.2.2.2.2.2.1 (ninS ho.2.2.2.2.2.2.2.2.2.2.2.1 (ninS ho.2.2.2.2.2.2.2.2.2.2.2.2.1 nin0))))
  have f272 := f265.keep Kq267 (ninS ho.2.2.2.2.2.2.2.2.2.2.2.2.2.2.1 (ninS ho.2.2.2.2.2.2.2.2.2.2.2.2.2.2.2.1 (ninS ho.2.2.2.2.2.2.2.2.2.2.2.2.2.2.2.2.1 (ninS ho.2.2.2.2.2.2.2.2.2.2.2.2.2.2.2.2.2.1 nin0))))
  have f273 := f266.keep Kq267 (ninS ho.2.2.2.2.2.2.2.2.2.2.2.2.2.2.2.2.2.2.1 (ninS ho.2.2.2.2.2.2.2.2.2.2.2.2.2.2.2.2.2.2.2.1 (ninS ho.2.2.2.2.2.2.2.2.2.2.2.2.2.2.2.2.2.2.2.2.1 (ninS ho.2.2.2.2.2.2.2.2.2.2.2.2.2.2.2.2.2.2.2.2.2.1 nin0))))
  refine W.s2 (mkF m 140 #[.val (.int y0), .val (.int y1), .val (.int y2), .val (.int y3), .val (.int y4), .val (.int (Int32.ofNat c0.1)), .val (.int (Int32.ofNat c1.1)), .val (.int (Int32.ofNat c2.1)), .val (.int (Int32.ofNat cs.1)), .val (.int (Int32.ofNat cr.1)), .val (.ref z1), .val (.ref z2), .val (.ref b107)] []) st267 ?_
  refine W.s1 (mkF m 142 #[.val (.int y0), .val (.int y1), .val (.int y2), .val (.int y3), .val (.int y4), .val (.int (Int32.ofNat c0.1)), .val (.int (Int32.ofNat c1.1)), .val (.int (Int32.ofNat c2.1)), .val (.int (Int32.ofNat cs.1)), .val (.int (Int32.ofNat cr.1)), .val (.ref z1), .val (.ref z2), .val (.ref b107)] [(.ref b107)]) (fun _ kx_ => XS.aload X267.here hx rfl (hb hby at_140) rfl rfl kx_) ?_
  refine W.s1 (mkF m 144 #[.val (.int y0), .val (.int y1), .val (.int y2), .val (.int y3), .val (.int y4), .val (.int (Int32.ofNat c0.1)), .val (.int (Int32.ofNat c1.1)), .val (.int (Int32.ofNat c2.1)), .val (.int (Int32.ofNat cs.1)), .val (.int (Int32.ofNat cr.1)), .val (.ref z1), .val (.ref z2), .val (.ref b107)] [(.int (Int32.ofNat cs.1)), (.ref b107)]) (fun _ kx_ => XS.iload X267.here hx rfl (hb hby at_142) rfl kx_) ?_
  obtain ⟨cq274, kq274, q274a, q274b, q274c⟩ := isOf hZ e267 f270
  obtain ⟨_, _, ⟨T274, L274, k274, n274⟩, -, X274, ⟨Lc274, hQ274, l274, y274, z274⟩, st274⟩ := X267.virtualBack hx (y := (⟨"com/example/stummel/stummel/geometry/PendingCrossings", "cancel", "(I)V"⟩ : MethodName)) (z := (⟨"com/example/stummel/stummel/geometry/PendingCrossings", "cancel", "(I)V"⟩ : MethodName)) hown (mvT hZ (hw _ (List.mem_of_getElem? (i := 50) rfl))) (mvT hZ (hw _ (List.mem_of_getElem? (i := 51) rfl))) (notFace_of_selects (args := #[]) (mvT hZ (hw _ (List.mem_of_getElem? (i := 53) rfl)))) (mvT hZ (hw _ (List.mem_of_getElem? (i := 53) rfl))) (mvT hZ (hw _ (List.mem_of_getElem? (i := 52) rfl))) (by decide) (backOf (W := 0) (rm9 l Z a0 hw [] b107 (Int32.ofNat cs.1) zb zx zy zf zd zn zp (own_s3 c0 c1 c2) cs.1 h267 n0 Z267 H267 ho hge (own_fin cs) cs.2 (own_v4 c0 c1 c2 cs)) hZ (hw _ (List.mem_of_getElem? (i := 54) rfl)) (hw _ (List.mem_of_getElem? (i := 8) rfl)) (by decide) (by decide)) q274a q274c (g := (mkF m 144 #[.val (.int y0), .val (.int y1), .val (.int y2), .val (.int y3), .val (.int y4), .val (.int (Int32.ofNat c0.1)), .val (.int (Int32.ofNat c1.1)), .val (.int (Int32.ofNat c2.1)), .val (.int (Int32.ofNat cs.1)), .val (.int (Int32.ofNat cr.1)), .val (.ref z1), .val (.ref z2), .val (.ref b107)] [(.int (Int32.ofNat cs.1)), (.ref b107)])) rfl (by rw [hml]; rfl) (Steps.refl _) (argsL := [(.int (Int32.ofNat cs.1))]) (rest := []) (lenOf pd_4 rfl) rfl (by show 2 * 0 + _ ≤ _; exact Nat.le_of_eq rfl) (hb hby at_144) (fun _ _ => ⟨rfl, e267, (by decide : 10 + 0 ≤ _), (by decide : 30 + 0 ≤ _)⟩)
  dsimp only [Pt.U, Pt.locs, Pt.cells, Pt.slots] at X274 l274 y274 z274 st274 hQ274
  subst l274 y274 z274
  obtain ⟨h274, e274⟩ : ∃ z, T274.heap = z := ⟨_, rfl⟩
  rw [e274] at hQ274
  obtain ⟨rfl, Nq274, Kq274, H274⟩ := hQ274
  have N274 := Fr.app N267 Nq274
  have Z274 : n0 ≤ h274.size := Nat.le_trans Z267 Kq274.1
  have f275 := f268.keep Kq274 (ninS nb_z1.2.2.2.2.1 (ninS nb_z1.2.2.2.2.2.1 (ninS nb_z1.2.2.2.2.2.2.1 (ninS nb_z1.2.2.2.2.2.2.2 nin0))))
  have f276 := f269.keep Kq274 (ninS nb_z2.2.2.2.2.1 (ninS nb_z2.2.2.2.2.2.1 (ninS nb_z2.2.2.2.2.2.2.1 (ninS nb_z2.2.2.2.2.2.2.2 nin0))))
  have f277 := f270.keep Kq274
  have f278 := f271.keep Kq274 (ninS ho.2.2.2.2.2.2.2.2.2.1 (ninS ho.2.2.2.2.2.2.2.2.2.2.1 (ninS ho.2.2.2.2.2.2.2.2.2.2.2.1 (ninS ho.2.2.2.2.2.2.2.2.2.2.2.2.1 nin0))))
  have f279 := f272.keep Kq274 (ninS ho.2.2.2.2.2.2.2.2.2.2.2.2.2.2.1 (ninS ho.2.2.2.2.2.2.2.2.2.2.2.2.2.2.2.1 (ninS ho.2.2.2.2.2.2.2.2.2.2.2.2.2.2.2.2.1 (ninS ho.2.2.2.2.2.2.2.2.2.2.2.2.2.2.2.2.2.1 nin0))))
  have f280 := f273.keep Kq274 (ninS ho.2.2.2.2.2.2.2.2.2.2.2.2.2.2.2.2.2.2.1 (ninS ho.2.2.2.2.2.2.2.2.2.2.2.2.2.2.2.2.2.2.2.1 (ninS ho.2.2.2.2.2.2.2.2.2.2.2.2.2.2.2.2.2.2.2.2.1 (ninS ho.2.2.2.2.2.2.2.2.2.2.2.2.2.2.2.2.2.2.2.2.2.1 nin0))))
  refine W.s3 (mkF m 147 #[.val (.int y0), .val (.int y1), .val (.int y2), .val (.int y3), .val (.int y4), .val (.int (Int32.ofNat c0.1)), .val (.int (Int32.ofNat c1.1)), .val (.int (Int32.ofNat c2.1)), .val (.int (Int32.ofNat cs.1)), .val (.int (Int32.ofNat cr.1)), .val (.ref z1), .val (.ref z2), .val (.ref b107)] []) st274 ?_
  refine W.s1 (mkF m 149 #[.val (.int y0), .val (.int y1), .val (.int y2), .val (.int y3), .val (.int y4), .val (.int (Int32.ofNat c0.1)), .val (.int (Int32.ofNat c1.1)), .val (.int (Int32.ofNat c2.1)), .val (.int (Int32.ofNat cs.1)), .val (.int (Int32.ofNat cr.1)), .val (.ref z1), .val (.ref z2), .val (.ref b107)] [(.ref b107)]) (fun _ kx_ => XS.aload X274.here hx rfl (hb hby at_147) rfl rfl kx_) ?_
  refine W.s1 (mkF m 151 #[.val (.int y0), .val (.int y1), .val (.int y2), .val (.int y3), .val (.int y4), .val (.int (Int32.ofNat c0.1)), .val (.int (Int32.ofNat c1.1)), .val (.int (Int32.ofNat c2.1)), .val (.int (Int32.ofNat cs.1)), .val (.int (Int32.ofNat cr.1)), .val (.ref z1), .val (.ref z2), .val (.ref b107)] [(.int (Int32.ofNat cs.1)), (.ref b107)]) (fun _ kx_ => XS.iload X274.here hx rfl (hb hby at_149) rfl kx_) ?_
  refine W.s1 (mkF m 153 #[.val (.int y0), .val (.int y1), .val (.int y2), .val (.int y3), .val (.int y4), .val (.int (Int32.ofNat c0.1)), .val (.int (Int32.ofNat c1.1)), .val (.int (Int32.ofNat c2.1)), .val (.int (Int32.ofNat cs.1)), .val (.int (Int32.ofNat cr.1)), .val (.ref z1), .val (.ref z2), .val (.ref b107)] [(.int (Int32.ofNat cr.1)), (.int (Int32.ofNat cs.1)), (.ref b107)]) (fun _ kx_ => XS.iload X274.here hx rfl (hb hby at_151) rfl kx_) ?_
  obtain ⟨_, _, ⟨T281, L281, k281, n281⟩, -, X281, ⟨Lc281, hQ281, l281, y281, z281⟩, st281⟩ := Jvm.LawKit.callS X274 hx (y := (⟨"com/example/stummel/stummel/geometry/PendingCrossingsCancelPinLaw", "addIf", "(Lcom/example/stummel/stummel/geometry/PendingCrossings;II)V"⟩ : MethodName)) hown (mvT hZ (hw _ (List.mem_of_getElem? (i := 34) rfl))) (mvT hZ (hw _ (List.mem_of_getElem? (i := 35) rfl))) (mvT hZ (hw _ (List.mem_of_getElem? (i := 3) rfl))) (mvT hZ (hw _ (List.mem_of_getElem? (i := 36) rfl))) (by decide) (backOf (W := 0) (rm_aif l Z a0 hw [] b107 (Int32.ofNat cs.1) (Int32.ofNat cr.1) zb zx zy zf zd zn zp (own_s4 c0 c1 c2 cs) cs.1 h274 n0 Z274 H274 ho hge (own_fin cs) cs.2 (own_v5 c0 c1 c2 cs cr) (own_012 cr)) hZ (hw _ (List.mem_of_getElem? (i := 36) rfl)) (hw _ (List.mem_of_getElem? (i := 3) rfl)) (by decide) (by decide)) (g := (mkF m 153 #[.val (.int y0), .val (.int y1), .val (.int y2), .val (.int y3), .val (.int y4), .val (.int (Int32.ofNat c0.1)), .val (.int (Int32.ofNat c1.1)), .val (.int (Int32.ofNat c2.1)), .val (.int (Int32.ofNat cs.1)), .val (.int (Int32.ofNat cr.1)), .val (.ref z1), .val (.ref z2), .val (.ref b107)] [(.int (Int32.ofNat cr.1)), (.int (Int32.ofNat cs.1)), (.ref b107)])) rfl (by rw [hml]; rfl) (argsL := [(.ref b107), (.int (Int32.ofNat cs.1)), (.int (Int32.ofNat cr.1))]) (rest := []) (lenOf pd_8 rfl) rfl (by show 2 * 0 + _ ≤ _; exact Nat.le_of_eq rfl) (hb hby at_153) (fun _ _ => ⟨rfl, e274, (by decide : 10 + 0 ≤ _), (by decide : 30 + 0 ≤ _)⟩)
  dsimp only [Pt.U, Pt.locs, Pt.cells, Pt.slots] at X281 l281 y281 z281 st281 hQ281
  subst l281 y281 z281
  obtain ⟨h281, e281⟩ : ∃ z, T281.heap = z := ⟨_, rfl⟩
  rw [e281] at hQ281
  obtain ⟨rfl, Nq281, Kq281, H281⟩ := hQ281
  have N281 := Fr.app N274 Nq281
  have Z281 : n0 ≤ h281.size := Nat.le_trans Z274 Kq281.1
  have f282 := f275.keep Kq281 (ninS nb_z1.2.2.2.2.1 (ninS nb_z1.2.2.2.2.2.1 (ninS nb_z1.2.2.2.2.2.2.1 (ninS nb_z1.2.2.2.2.2.2.2 nin0))))
  have f283 := f276.keep Kq281 (ninS nb_z2.2.2.2.2.1 (ninS nb_z2.2.2.2.2.2.1 (ninS nb_z2.2.2.2.2.2.2.1 (ninS nb_z2.2.2.2.2.2.2.2 nin0))))
  have f284 := f277.keep Kq281
  have f285 := f278.keep Kq281 (ninS ho.2.2.2.2.2.2.2.2.2.1 (ninS ho.2.2.2.2.2.2.2.2.2.2.1 (ninS ho.2.2.2.2.2.2.2.2.2.2.2.1 (ninS ho.2.2.2.2.2.2.2.2.2.2.2.2.1 nin0))))
  have f286 := f279.keep Kq281 (ninS ho.2.2.2.2.2.2.2.2.2.2.2.2.2.2.1 (ninS ho.2.2.2.2.2.2.2.2.2.2.2.2.2.2.2.1 (ninS ho.2.2.2.2.2.2.2.2.2.2.2.2.2.2.2.2.1 (ninS ho.2.2.2.2.2.2.2.2.2.2.2.2.2.2.2.2.2.1 nin0))))
  have f287 := f280.keep Kq281 (ninS ho.2.2.2.2.2.2.2.2.2.2.2.2.2.2.2.2.2.2.1 (ninS ho.2.2.2.2.2.2.2.2.2.2.2.2.2.2.2.2.2.2.2.1 (ninS ho.2.2.2.2.2.2.2.2.2.2.2.2.2.2.2.2.2.2.2.2.1 (ninS ho.2.2.2.2.2.2.2.2.2.2.2.2.2.2.2.2.2.2.2.2.2.1 nin0))))
  refine W.s2 (mkF m 156 #[.val (.int y0), .val (.int y1), .val (.int y2), .val (.int y3), .val (.int y4), .val (.int (Int32.ofNat c0.1)), .val (.int (Int32.ofNat c1.1)), .val (.int (Int32.ofNat c2.1)), .val (.int (Int32.ofNat cs.1)), .val (.int (Int32.ofNat cr.1)), .val (.ref z1), .val (.ref z2), .val (.ref b107)] []) st281 ?_
  refine W.s1 (mkF m 158 #[.val (.int y0), .val (.int y1), .val (.int y2), .val (.int y3), .val (.int y4), .val (.int (Int32.ofNat c0.1)), .val (.int (Int32.ofNat c1.1)), .val (.int (Int32.ofNat c2.1)), .val (.int (Int32.ofNat cs.1)), .val (.int (Int32.ofNat cr.1)), .val (.ref z1), .val (.ref z2), .val (.ref b107)] [(.ref b107)]) (fun _ kx_ => XS.aload X281.here hx rfl (hb hby at_156) rfl rfl kx_) ?_
  refine W.s1 (mkF m 159 #[.val (.int y0), .val (.int y1), .val (.int y2), .val (.int y3), .val (.int y4), .val (.int (Int32.ofNat c0.1)), .val (.int (Int32.ofNat c1.1)), .val (.int (Int32.ofNat c2.1)), .val (.int (Int32.ofNat cs.1)), .val (.int (Int32.ofNat cr.1)), .val (.ref z1), .val (.ref z2), .val (.ref b107)] [(.int (0 : Int32)), (.ref b107)]) (fun _ kx_ => XS.iconst X281.here hx rfl (hb hby at_158) kx_) ?_
  refine W.s1 (mkF m 161 #[.val (.int y0), .val (.int y1), .val (.int y2), .val (.int y3), .val (.int y4), .val (.int (Int32.ofNat c0.1)), .val (.int (Int32.ofNat c1.1)), .val (.int (Int32.ofNat c2.1)), .val (.int (Int32.ofNat cs.1)), .val (.int (Int32.ofNat cr.1)), .val (.ref z1), .val (.ref z2), .val (.ref b107)] [(.ref z1), (.int (0 : Int32)), (.ref b107)]) (fun _ kx_ => XS.aload X281.here hx rfl (hb hby at_159) rfl rfl kx_) ?_
  obtain ⟨_, _, ⟨T288, L288, k288, n288⟩, -, X288, ⟨Lc288, hQ288, l288, y288, z288⟩, st288⟩ := Jvm.LawKit.callS X281 hx (y := (⟨"com/example/stummel/stummel/geometry/PendingCrossingsCancelPinLaw", "drains", "(Lcom/example/stummel/stummel/geometry/PendingCrossings;I[I)Z"⟩ : MethodName)) hown (mvT hZ (hw _ (List.mem_of_getElem? (i := 55) rfl))) (mvT hZ (hw _ (List.mem_of_getElem? (i := 56) rfl))) (mvT hZ (hw _ (List.mem_of_getElem? (i := 3) rfl))) (mvT hZ (hw _ (List.mem_of_getElem? (i := 57) rfl))) (by decide) (backOf (W := 0) (rm10_0 l Z a0 hw [] b107 z1 zb zx zy zf zd zn zp (own_s5 c0 c1 c2 cs cr) (own_E 1 c0 c1 c2 cs cr).1 h281 n0 Z281 H281 ho hge f282 nb_z1 (own_v6 c0 c1 c2 cs cr)) hZ (hw _ (List.mem_of_getElem? (i := 57) rfl)) (hw _ (List.mem_of_getElem? (i := 3) rfl)) (by decide) (by decide)) (g := (mkF m 161 #[.val (.int y0), .val (.int y1), .val (.int y2), .val (.int y3), .val (.int y4), .val (.int (Int32.ofNat c0.1)), .val (.int (Int32.ofNat c1.1)), .val (.int (Int32.ofNat c2.1)), .val (.int (Int32.ofNat cs.1)), .val (.int (Int32.ofNat cr.1)), .val (.ref z1), .val (.ref z2), .val (.ref b107)] [(.ref z1), (.int (0 : Int32)), (.ref b107)])) rfl (by rw [hml]; rfl) (argsL := [(.ref b107), (.int (0 : Int32)), (.ref z1)]) (rest := []) (lenOf pd_9 rfl) rfl (by show 2 * 0 + _ ≤ _; exact Nat.le_of_eq rfl) (hb hby at_161) (fun _ _ => ⟨rfl, e281, (by decide : 10 + 0 ≤ _), (by decide : 30 + 0 ≤ _)⟩)
  dsimp only [Pt.U, Pt.locs, Pt.cells, Pt.slots] at X288 l288 y288 z288 st288 hQ288
  subst l288 y288 z288
  obtain ⟨h288, e288⟩ : ∃ z, T288.heap = z := ⟨_, rfl⟩
  rw [e288] at hQ288
  obtain ⟨rfl, Nq288, Kq288, H288⟩ := hQ288
  have N288 := Fr.app N281 Nq288
  have Z288 : n0 ≤ h288.size := Nat.le_trans Z281 Kq288.1
  have f289 := f282.keep Kq288 (ninS nb_z1.2.2.2.2.1 (ninS nb_z1.2.2.2.2.2.1 (ninS nb_z1.2.2.2.2.2.2.1 (ninS nb_z1.2.2.2.2.2.2.2 nin0))))
  have f290 := f283.keep Kq288 (ninS nb_z2.2.2.2.2.1 (ninS nb_z2.2.2.2.2.2.1 (ninS nb_z2.2.2.2.2.2.2.1 (ninS nb_z2.2.2.2.2.2.2.2 nin0))))
  have f291 := f284.keep Kq288
  have f292 := f285.keep Kq288 (ninS ho.2.2.2.2.2.2.2.2.2.1 (ninS ho.2.2.2.2.2.2.2.2.2.2.1 (ninS ho.2.2.2.2.2.2.2.2.2.2.2.1 (ninS ho.2.2.2.2.2.2.2.2.2.2.2.2.1 nin0))))
  have f293 := f286.keep Kq288 (ninS ho.2.2.2.2.2.2.2.2.2.2.2.2.2.2.1 (ninS ho.2.2.2.2.2.2.2.2.2.2.2.2.2.2.2.1 (ninS ho.2.2.2.2.2.2.2.2.2.2.2.2.2.2.2.2.1 (ninS ho.2.2.2.2.2.2.2.2.2.2.2.2.2.2.2.2.2.1 nin0))))
  have f294 := f287.keep Kq288 (ninS ho.2.2.2.2.2.2.2.2.2.2.2.2.2.2.2.2.2.2.1 (ninS ho.2.2.2.2.2.2.2.2.2.2.2.2.2.2.2.2.2.2.2.1 (ninS ho.2.2.2.2.2.2.2.2.2.2.2.2.2.2.2.2.2.2.2.2.1 (ninS ho.2.2.2.2.2.2.2.2.2.2.2.2.2.2.2.2.2.2.2.2.2.1 nin0))))
  refine W.s2 (mkF m 164 #[.val (.int y0), .val (.int y1), .val (.int y2), .val (.int y3), .val (.int y4), .val (.int (Int32.ofNat c0.1)), .val (.int (Int32.ofNat c1.1)), .val (.int (Int32.ofNat c2.1)), .val (.int (Int32.ofNat cs.1)), .val (.int (Int32.ofNat cr.1)), .val (.ref z1), .val (.ref z2), .val (.ref b107)] [(.int (1 : Int32))]) st288 ?_
  refine W.ifc X288 hx (hb hby at_164) (pc' := 182) (pc'' := 167) (by decide) (by decide) rfl (fun (c164 : (1 : Int32) = (0 : Int32)) => ?_) (fun (c164 : ¬ (1 : Int32) = (0 : Int32)) => ?_)
  · exact absurd c164 (by decide)
  · refine W.s1 (mkF m 169 #[.val (.int y0), .val (.int y1), .val (.int y2), .val (.int y3), .val (.int y4), .val (.int (Int32.ofNat c0.1)), .val (.int (Int32.ofNat c1.1)), .val (.int (Int32.ofNat c2.1)), .val (.int (Int32.ofNat cs.1)), .val (.int (Int32.ofNat cr.1)), .val (.ref z1), .val (.ref z2), .val (.ref b107)] [(.ref b107)]) (fun _ kx_ => XS.aload X288.here hx rfl (hb hby at_167) rfl rfl kx_) ?_
    refine W.s1 (mkF m 170 #[.val (.int y0), .val (.int y1), .val (.int y2), .val (.int y3), .val (.int y4), .val (.int (Int32.ofNat c0.1)), .val (.int (Int32.ofNat c1.1)), .val (.int (Int32.ofNat c2.1)), .val (.int (Int32.ofNat cs.1)), .val (.int (Int32.ofNat cr.1)), .val (.ref z1), .val (.ref z2), .val (.ref b107)] [(.int (1 : Int32)), (.ref b107)]) (fun _ kx_ => XS.iconst X288.here hx rfl (hb hby at_169) kx_) ?_
    refine W.s1 (mkF m 172 #[.val (.int y0), .val (.int y1), .val (.int y2), .val (.int y3), .val (.int y4), .val (.int (Int32.ofNat c0.1)), .val (.int (Int32.ofNat c1.1)), .val (.int (Int32.ofNat c2.1)), .val (.int (Int32.ofNat cs.1)), .val (.int (Int32.ofNat cr.1)), .val (.ref z1), .val (.ref z2), .val (.ref b107)] [(.ref z2), (.int (1 : Int32)), (.ref b107)]) (fun _ kx_ => XS.aload X288.here hx rfl (hb hby at_170) rfl rfl kx_) ?_
    obtain ⟨_, _, ⟨T295, L295, k295, n295⟩, -, X295, ⟨Lc295, hQ295, l295, y295, z295⟩, st295⟩ := Jvm.LawKit.callS X288 hx (y := (⟨"com/example/stummel/stummel/geometry/PendingCrossingsCancelPinLaw", "drains", "(Lcom/example/stummel/stummel/geometry/PendingCrossings;I[I)Z"⟩ : MethodName)) hown (mvT hZ (hw _ (List.mem_of_getElem? (i := 55) rfl))) (mvT hZ (hw _ (List.mem_of_getElem? (i := 56) rfl))) (mvT hZ (hw _ (List.mem_of_getElem? (i := 3) rfl))) (mvT hZ (hw _ (List.mem_of_getElem? (i := 57) rfl))) (by decide) (backOf (W := 0) (rm10_1 l Z a0 hw [] b107 z2 zb zx zy zf zd zn zp (own_dr 0 (own_s5 c0 c1 c2 cs cr)) (own_E 2 c0 c1 c2 cs cr).1 h288 n0 Z288 H288 ho hge f290 nb_z2 (own_v7 c0 c1 c2 cs cr)) hZ (hw _ (List.mem_of_getElem? (i := 57) rfl)) (hw _ (List.mem_of_getElem? (i := 3) rfl)) (by decide) (by decide)) (g := (mkF m 172 #[.val (.int y0), .val (.int y1), .val (.int y2), .val (.int y3), .val (.int y4), .val (.int (Int32.ofNat c0.1)), .val (.int (Int32.ofNat c1.1)), .val (.int (Int32.ofNat c2.1)), .val (.int (Int32.ofNat cs.1)), .val (.int (Int32.ofNat cr.1)), .val (.ref z1), .val (.ref z2), .val (.ref b107)] [(.ref z2), (.int (1 : Int32)), (.ref b107)])) rfl (by rw [hml]; rfl) (argsL := [(.ref b107), (.int (1 : Int32)), (.ref z2)]) (rest := []) (lenOf pd_9 rfl) rfl (by show 2 * 0 + _ ≤ _; exact Nat.le_of_eq rfl) (hb hby at_172) (fun _ _ => ⟨rfl, e288, (by decide : 10 + 0 ≤ _), (by decide : 30 + 0 ≤ _)⟩)
    dsimp only [Pt.U, Pt.locs, Pt.cells, Pt.slots] at X295 l295 y295 z295 st295 hQ295
    subst l295 y295 z295
    obtain ⟨h295, e295⟩ : ∃ z, T295.heap = z := ⟨_, rfl⟩
    rw [e295] at hQ295
    obtain ⟨rfl, Nq295, Kq295, H295⟩ := hQ295
    have N295 := Fr.app N288 Nq295
    have Z295 : n0 ≤ h295.size := Nat.le_trans Z288 Kq295.1
    have f296 := f289.keep Kq295 (ninS nb_z1.2.2.2.2.1 (ninS nb_z1.2.2.2.2.2.1 (ninS nb_z1.2.2.2.2.2.2.1 (ninS nb_z1.2.2.2.2.2.2.2 nin0))))
    have f297 := f290.keep Kq295 (ninS nb_z2.2.2.2.2.1 (ninS nb_z2.2.2.2.2.2.1 (ninS nb_z2.2.2.2.2.2.2.1 (ninS nb_z2.2.2.2.2.2.2.2 nin0))))
    have f298 := f291.keep Kq295
    have f299 := f292.keep Kq295 (ninS ho.2.2.2.2.2.2.2.2.2.1 (ninS ho.2.2.2.2.2.2.2.2.2.2.1 (ninS ho.2.2.2.2.2.2.2.2.2.2.2.1 (ninS ho.2.2.2.2.2.2.2.2.2.2.2.2.1 nin0))))
    have f300 := f293.keep Kq295 (ninS ho.2.2.2.2.2.2.2.2.2.2.2.2.2.2.1 (ninS ho.2.2.2.2.2.2.2.2.2.2.2.2.2.2.2.1 (ninS ho.2.2.2.2.2.2.2.2.2.2.2.2.2.2.2.2.1 (ninS ho.2.2.2.2.2.2.2.2.2.2.2.2.2.2.2.2.2.1 nin0))))
    have f301 := f294.keep Kq295 (ninS ho.2.2.2.2.2.2.2.2.2.2.2.2.2.2.2.2.2.2.1 (ninS ho.2.2.2.2.2.2.2.2.2.2.2.2.2.2.2.2.2.2.2.1 (ninS ho.2.2.2.2.2.2.2.2.2.2.2.2.2.2.2.2.2.2.2.2.1 (ninS ho.2.2.2.2.2.2.2.2.2.2.2.2.2.2.2.2.2.2.2.2.2.1 nin0))))
    refine W.s2 (mkF m 175 #[.val (.int y0), .val (.int y1), .val (.int y2), .val (.int y3), .val (.int y4), .val (.int (Int32.ofNat c0.1)), .val (.int (Int32.ofNat c1.1)), .val (.int (Int32.ofNat c2.1)), .val (.int (Int32.ofNat cs.1)), .val (.int (Int32.ofNat cr.1)), .val (.ref z1), .val (.ref z2), .val (.ref b107)] [(.int (1 : Int32))]) st295 ?_
    refine W.ifc X295 hx (hb hby at_175) (pc' := 182) (pc'' := 178) (by decide) (by decide) rfl (fun (c175 : (1 : Int32) = (0 : Int32)) => ?_) (fun (c175 : ¬ (1 : Int32) = (0 : Int32)) => ?_)
    · exact absurd c175 (by decide)
    · refine W.s1 (mkF m 179 #[.val (.int y0), .val (.int y1), .val (.int y2), .val (.int y3), .val (.int y4), .val (.int (Int32.ofNat c0.1)), .val (.int (Int32.ofNat c1.1)), .val (.int (Int32.ofNat c2.1)), .val (.int (Int32.ofNat cs.1)), .val (.int (Int32.ofNat cr.1)), .val (.ref z1), .val (.ref z2), .val (.ref b107)] [(.int (1 : Int32))]) (fun _ kx_ => XS.iconst X295.here hx rfl (hb hby at_178) kx_) ?_
      refine W.s1 (mkF m 183 #[.val (.int y0), .val (.int y1), .val (.int y2), .val (.int y3), .val (.int y4), .val (.int (Int32.ofNat c0.1)), .val (.int (Int32.ofNat c1.1)), .val (.int (Int32.ofNat c2.1)), .val (.int (Int32.ofNat cs.1)), .val (.int (Int32.ofNat cr.1)), .val (.ref z1), .val (.ref z2), .val (.ref b107)] [(.int (1 : Int32))]) (fun _ kx_ => XS.goto X295.here hx rfl (pc0 := 179) (pc' := 183) rfl (hb hby at_179) (by decide) (by decide) kx_) ?_
      exact W.retZ X295 hx hlk (t := .boolean) (z' := (1 : Int32)) Bd.returns (by simp) (hb hby at_183) rfl (by show Q0 Z y0 y1 y2 y3 y4 h0 n0 _ T295.heap _; rw [e295]; exact ⟨rfl, N295⟩) (by decide) (by decide)
set_option maxRecDepth 65536 in
set_option maxHeartbeats 40000000 in
theorem comes_1 {Post : Tables → Env → Array Value → State → Outcome → State → Prop} (hpost : ∀ tb e args s v u, (limb_1_1.after args s (.returned v) u = true ∧ limb_1_2.after args s (.returned v) u = true ∧ True) → FrameEnd s (.returned v) u (Jvm.fieldLocs frame_1_writes args s ++ Jvm.arrayLocs frame_1_arrays args s ++ Jvm.staticLocs frame_1_statics s) 32 128 → Post tb e args s (.returned v) u) :
    ArmFor flags0 classFile x code maxLocals ret World_1 tables_1 room_1 Calls_1 rest_1 Pre_1 Post := by
  intro l hfl _ _ p e ha hc hk s m args below hf hA hF happ hP
  obtain ⟨hcalls, hrest, hpre⟩ := hP
  obtain ⟨-, -, -, hnamed, -, -, -, hat⟩ := (Spec.applies_iff hf).mp happ
  obtain ⟨hg, hn⟩ := and_e (Cond.before_iff.mp (show (Jvm.Cond.and given_1 narrow_1).before args s = true from hpre))
  obtain ⟨gc, g0⟩ := and_e hg
  obtain ⟨w_0, g1⟩ := and_e g0
  obtain ⟨w_1, g2⟩ := and_e g1
  obtain ⟨w_2, g3⟩ := and_e g2
  obtain ⟨w_3, g4⟩ := and_e g3
  have w_4 := g4
  obtain ⟨w0, w1, w2, w3, w4, rfl⟩ : ∃ w0 w1 w2 w3 w4 : Value, args = #[w0, w1, w2, w3, w4] := by
    have hs : args.size = 5 := by simpa [Cond.value, given_1] using gc
    obtain ⟨L⟩ := args
    match L, hs with
    | [w0, w1, w2, w3, w4], _ => exact ⟨w0, w1, w2, w3, w4, rfl⟩
  have hw := fun d (hd : d ∈ tables_1) => atoms_spec (ws := Jvm.Cond.code x code maxLocals ret :: tables_1) hat d (List.mem_cons_of_mem _ hd)
  have hfit : Fit s := fun {y c} hc i hi => by
    obtain ⟨ha, rfl⟩ := Array.getElem?_eq_some_iff.mp hc
    have q := List.all_eq_true.mp ((Array.all_eq_true_iff_forall_mem.mp hF) _ (Array.getElem_mem ha)) i (List.mem_range.mpr hi)
    simpa [Array.getElem?_eq_getElem hi] using q
  obtain ⟨i0, ei0⟩ := is_v w_0
  obtain rfl : w0 = (.int i0) := Option.some.inj ei0
  obtain ⟨i1, ei1⟩ := is_v w_1
  obtain rfl : w1 = (.int i1) := Option.some.inj ei1
  obtain ⟨i2, ei2⟩ := is_v w_2
  obtain rfl : w2 = (.int i2) := Option.some.inj ei2
  obtain ⟨i3, ei3⟩ := is_v w_3
  obtain rfl : w3 = (.int i3) := Option.some.inj ei3
  obtain ⟨i4, ei4⟩ := is_v w_4
  obtain rfl : w4 = (.int i4) := Option.some.inj ei4
  obtain ⟨n, o, h1, h2, h3, _, L, rfl, ⟨rfl, N⟩, hq⟩ := rm0 l s _ hw tables_1 i0 i1 i2 i3 i4 s.heap s.heap.size (Nat.le_refl _)  p e ha hc hk s m _ below hf ((Spec.applies_iff_loose hf).mp happ).1 ⟨rfl, State.Warmed39.refl s, rfl⟩ trivial
  refine ⟨n, _, h1, h2, h3, hpost _ _ _ _ _ _ ⟨Cond.after_iff.mpr rfl, Cond.after_iff.mpr (eq_i res_at (Term.int_eval (1)) rfl), trivial⟩ ⟨hq.1, hq.2.1, (hq.2.2.sift fun y hy => Or.inr (N y hy)).mono (by decide) (by decide)⟩⟩
theorem main_1_1 : Claimed_1_1 := comes_1 fun _ _ _ _ _ _ h hF => ⟨h.1, hF⟩
theorem main_1_2 : Claimed_1_2 := comes_1 fun _ _ _ _ _ _ h hF => ⟨h.2.1, hF⟩
end Jvm.Pilot.@@N@@
namespace Jvm.Pilot.@@N@@
open Jvm Jvm.ClassFile Sem Op Lib Jvm.Free Jvm.Stand Jvm.Pilot.@@N@@.Jvm.D
/-! MADE BY PROGRAM (witnessworld.py) out of the Statement's table words and the real class files: 10 classes; the members and pool entries that the words name. The judged class is class 1, her method 1. -/
namespace start1
open Jvm.ClassFile
def u (s : String) : CpInfo := .utf8 (stringToUtf16 s)
/-- a pool by its gaps: so many unusable entries, then the entry; so many at the end -/
def gap : Nat → List CpInfo → List CpInfo
  | 0, r => r
  | n + 1, r => .unusable :: gap n r
def poolList (es : List (Nat × CpInfo)) (last : Nat) : List CpInfo := es.foldr (fun e r => gap e.1 (e.2 :: r)) (gap last [])
def pool (es : List (Nat × CpInfo)) (last : Nat) : Array CpInfo := ⟨poolList es last⟩
def fileOf (pool : Array CpInfo) (this : Nat) (attrs : Array Attribute := #[]) (ms : Array MethodInfo := #[]) (fl : Nat := 33) (sup : Nat := 0) (ifs : Array Nat := #[]) (fds : Array FieldInfo := #[]) : ClassFile where
  minorVersion := 0
  majorVersion := 65
  constantPool := pool
  accessFlags := fl
  thisClass := this
  superClass := sup
  interfaces := ifs
  fields := fds
  methods := ms
  attributes := attrs
def plain (name : String) (sup : Option ClassId) : Class where
  name := name
  kind := .ordinary
  loader := none
  accessFlags := 33
  super := sup
  interfaces := #[]
  cf := none
  fields := #[]
  methods := #[]
  instanceTypes := #[]
  staticTypes := #[]
  resolved := #[]
  callSites := []
  init := .initialized
  statics := none
  mirror := none

def pool0 : Array CpInfo := pool [(5, u "<init>"), (0, u "()V"), (1, .class_ 10), (1, u "java/lang/Object")] 113

def k0c0 : Code := { maxStack := 0, maxLocals := 1, code := object_method_1_code, exceptionTable := #[], attributes := #[] }
def k0m0 : Method := { name := "<init>", desc := "()V", sig := { parameters := [], returnType := none }, accessFlags := 1, code := some k0c0 }
/-- java/lang/Object -/
def k0 : Class := { plain "java/lang/Object" none with
  accessFlags := 33
  interfaces := #[]
  cf := some (fileOf pool0 8 #[] #[{ accessFlags := 1, nameIndex := 5, descriptorIndex := 6, attributes := #[] }] 33 0 #[] #[])
  fields := #[]
  methods := #[k0m0]
  instanceTypes := #[]
  staticTypes := #[]
  resolved := Array.replicate 124 none
  statics := none }

def pool1 : Array CpInfo := pool [(2, .class_ 4), (1, u "java/lang/Object"), (0, u "<init>"), (0, u "()V"), (0, .integer 2147483647), (0, .methodref 9 10), (0, .class_ 11), (0, .nameAndType 12 13), (0, u "com/example/stummel/stummel/geometry/PendingCrossingsCancelPinLaw"), (0, u "expected"), (0, u "(IIIIII)[I"), (0, .class_ 15), (0, u "com/example/stummel/stummel/geometry/PendingCrossings"), (0, .methodref 14 17), (0, .nameAndType 5 18), (0, u "(I[I[D[D)V"), (0, .methodref 9 20), (0, .nameAndType 21 22), (0, u "addIf"), (0, u "(Lcom/example/stummel/stummel/geometry/PendingCrossings;II)V"), (0, .methodref 14 24), (0, .nameAndType 25 26), (0, u "cancel"), (0, u "(I)V"), (0, .methodref 9 28), (0, .nameAndType 29 30), (0, u "drains"), (0, u "(Lcom/example/stummel/stummel/geometry/PendingCrossings;I[I)Z"), (0, .methodref 14 32), (0, .nameAndType 33 34), (0, u "add"), (0, u "(IDDI)V"), (0, .methodref 14 36), (0, .nameAndType 37 38), (0, u "takeDue"), (0, u "(I)I"), (2, u "law"), (0, u "(IIIII)Z")] 5

def k1m0 : Method := { name := "<init>", desc := "()V", sig := { parameters := [], returnType := none }, accessFlags := 1, code := none }
def k1c1 : Code := { maxStack := 10, maxLocals := 13, code := code, exceptionTable := #[], attributes := #[] }
def k1m1 : Method := { name := "law", desc := "(IIIII)Z", sig := { parameters := [.int, .int, .int, .int, .int], returnType := some .boolean }, accessFlags := 9, code := some k1c1 }
def k1c2 : Code := { maxStack := 7, maxLocals := 3, code := method_3_code, exceptionTable := #[], attributes := #[] }
def k1m2 : Method := { name := "addIf", desc := "(Lcom/example/stummel/stummel/geometry/PendingCrossings;II)V", sig := { parameters := [(.object "com/example/stummel/stummel/geometry/PendingCrossings"), .int, .int], returnType := none }, accessFlags := 10, code := some k1c2 }
def k1c3 : Code := { maxStack := 4, maxLocals := 8, code := method_4_code, exceptionTable := #[], attributes := #[] }
def k1m3 : Method := { name := "expected", desc := "(IIIIII)[I", sig := { parameters := [.int, .int, .int, .int, .int, .int], returnType := some (.array .int) }, accessFlags := 10, code := some k1c3 }
def k1c4 : Code := { maxStack := 3, maxLocals := 3, code := method_5_code, exceptionTable := #[], attributes := #[] }
def k1m4 : Method := { name := "drains", desc := "(Lcom/example/stummel/stummel/geometry/PendingCrossings;I[I)Z", sig := { parameters := [(.object "com/example/stummel/stummel/geometry/PendingCrossings"), .int, (.array .int)], returnType := some .boolean }, accessFlags := 10, code := some k1c4 }
/-- com/example/stummel/stummel/geometry/PendingCrossingsCancelPinLaw -/
def k1 : Class := { plain "com/example/stummel/stummel/geometry/PendingCrossingsCancelPinLaw" (some 0) with
  accessFlags := 49
  interfaces := #[]
  cf := some (fileOf pool1 9 #[] #[{ accessFlags := 1, nameIndex := 5, descriptorIndex := 6, attributes := #[] }, { accessFlags := 9, nameIndex := 41, descriptorIndex := 42, attributes := #[] }, { accessFlags := 10, nameIndex := 21, descriptorIndex := 22, attributes := #[] }, { accessFlags := 10, nameIndex := 12, descriptorIndex := 13, attributes := #[] }, { accessFlags := 10, nameIndex := 29, descriptorIndex := 30, attributes := #[] }] 49 2 #[] #[])
  fields := #[]
  methods := #[k1m0, k1m1, k1m2, k1m3, k1m4]
  instanceTypes := #[]
  staticTypes := #[]
  resolved := Array.replicate 48 none
  statics := none }

def pool2 : Array CpInfo := pool [(1, .methodref 2 3), (0, .class_ 4), (0, .nameAndType 5 6), (0, u "java/lang/Object"), (0, u "<init>"), (0, u "()V"), (0, .fieldref 8 9), (0, .class_ 10), (0, .nameAndType 11 12), (0, u "com/example/stummel/stummel/geometry/PendingCrossings"), (0, u "byPlace"), (0, u "[I"), (0, .fieldref 8 14), (0, .nameAndType 15 16), (0, u "x"), (0, u "[D"), (0, .fieldref 8 18), (0, .nameAndType 19 16), (0, u "y"), (0, .fieldref 8 21), (0, .nameAndType 22 12), (0, u "firstDue"), (0, .methodref 24 25), (0, .class_ 26), (0, .nameAndType 27 28), (0, u "java/util/Arrays"), (0, u "fill"), (0, u "([II)V"), (0, .fieldref 8 30), (0, .nameAndType 31 12), (0, u "dueAt"), (0, .fieldref 8 33), (0, .nameAndType 34 12), (0, u "next"), (0, .fieldref 8 36), (0, .nameAndType 37 12), (0, u "previous"), (9, .methodref 8 48), (0, .nameAndType 49 50), (0, u "firstNotBefore"), (0, u "(DDI)I"), (1, .methodref 8 53), (0, .nameAndType 54 55), (0, u "cancel"), (0, u "(I)V"), (0, .methodref 8 57), (0, .nameAndType 58 59), (0, u "comesBefore"), (0, u "(IDD)Z"), (0, u "NONE"), (0, u "I"), (2, u "(I[I[D[D)V"), (2, u "add"), (0, u "(IDDI)V"), (1, u "takeDue"), (0, u "(I)I")] 19

def k2c0 : Code := { maxStack := 2, maxLocals := 5, code := prog_7_method_1_code, exceptionTable := #[], attributes := #[] }
def k2m0 : Method := { name := "<init>", desc := "(I[I[D[D)V", sig := { parameters := [.int, (.array .int), (.array .double), (.array .double)], returnType := none }, accessFlags := 0, code := some k2c0 }
def k2c1 : Code := { maxStack := 7, maxLocals := 8, code := prog_7_method_2_code, exceptionTable := #[], attributes := #[] }
def k2m1 : Method := { name := "add", desc := "(IDDI)V", sig := { parameters := [.int, .double, .double, .int], returnType := none }, accessFlags := 0, code := some k2c1 }
def k2c2 : Code := { maxStack := 4, maxLocals := 3, code := prog_7_method_3_code, exceptionTable := #[], attributes := #[] }
def k2m2 : Method := { name := "cancel", desc := "(I)V", sig := { parameters := [.int], returnType := none }, accessFlags := 0, code := some k2c2 }
def k2c3 : Code := { maxStack := 2, maxLocals := 3, code := prog_7_method_4_code, exceptionTable := #[], attributes := #[] }
def k2m3 : Method := { name := "takeDue", desc := "(I)I", sig := { parameters := [.int], returnType := some .int }, accessFlags := 0, code := some k2c3 }
def k2c4 : Code := { maxStack := 6, maxLocals := 12, code := prog_7_method_5_code, exceptionTable := #[], attributes := #[] }
def k2m4 : Method := { name := "firstNotBefore", desc := "(DDI)I", sig := { parameters := [.double, .double, .int], returnType := some .int }, accessFlags := 2, code := some k2c4 }
def k2c5 : Code := { maxStack := 4, maxLocals := 7, code := prog_7_method_6_code, exceptionTable := #[], attributes := #[] }
def k2m5 : Method := { name := "comesBefore", desc := "(IDD)Z", sig := { parameters := [.int, .double, .double], returnType := some .boolean }, accessFlags := 2, code := some k2c5 }
/-- com/example/stummel/stummel/geometry/PendingCrossings -/
def k2 : Class := { plain "com/example/stummel/stummel/geometry/PendingCrossings" (some 0) with
  accessFlags := 48
  interfaces := #[]
  cf := some (fileOf pool2 8 #[] #[{ accessFlags := 0, nameIndex := 5, descriptorIndex := 64, attributes := #[] }, { accessFlags := 0, nameIndex := 67, descriptorIndex := 68, attributes := #[] }, { accessFlags := 0, nameIndex := 54, descriptorIndex := 55, attributes := #[] }, { accessFlags := 0, nameIndex := 70, descriptorIndex := 71, attributes := #[] }, { accessFlags := 2, nameIndex := 49, descriptorIndex := 50, attributes := #[] }, { accessFlags := 2, nameIndex := 58, descriptorIndex := 59, attributes := #[] }] 48 2 #[] #[{ accessFlags := 26, nameIndex := 60, descriptorIndex := 61, attributes := #[] }, { accessFlags := 18, nameIndex := 11, descriptorIndex := 12, attributes := #[] }, { accessFlags := 18, nameIndex := 15, descriptorIndex := 16, attributes := #[] }, { accessFlags := 18, nameIndex := 19, descriptorIndex := 16, attributes := #[] }, { accessFlags := 18, nameIndex := 22, descriptorIndex := 12, attributes := #[] }, { accessFlags := 18, nameIndex := 31, descriptorIndex := 12, attributes := #[] }, { accessFlags := 18, nameIndex := 34, descriptorIndex := 12, attributes := #[] }, { accessFlags := 18, nameIndex := 37, descriptorIndex := 12, attributes := #[] }])
  fields := #[{ name := "NONE", type := .int, accessFlags := 26, slot := 0, constantValue := 0 }, { name := "byPlace", type := (.array .int), accessFlags := 18, slot := 0, constantValue := 0 }, { name := "x", type := (.array .double), accessFlags := 18, slot := 1, constantValue := 0 }, { name := "y", type := (.array .double), accessFlags := 18, slot := 2, constantValue := 0 }, { name := "firstDue", type := (.array .int), accessFlags := 18, slot := 3, constantValue := 0 }, { name := "dueAt", type := (.array .int), accessFlags := 18, slot := 4, constantValue := 0 }, { name := "next", type := (.array .int), accessFlags := 18, slot := 5, constantValue := 0 }, { name := "previous", type := (.array .int), accessFlags := 18, slot := 6, constantValue := 0 }]
  methods := #[k2m0, k2m1, k2m2, k2m3, k2m4, k2m5]
  instanceTypes := #[(.array .int), (.array .double), (.array .double), (.array .int), (.array .int), (.array .int), (.array .int)]
  staticTypes := #[.int]
  resolved := Array.replicate 91 none
  statics := none }

def pool3 : Array CpInfo := pool [(2, .class_ 4), (1, u "java/lang/Object"), (0, u "<init>"), (0, u "()V"), (7, .class_ 16), (1, u "java/util/Arrays"), (57, .class_ 76), (1, u "java/util/Arrays$NaturalOrder"), (36, .class_ 115), (1, u "java/util/Arrays$LegacyMergeSort"), (1, u "Z"), (257, .class_ 376), (0, u "java/util/Arrays$ArrayList"), (68, u "$assertionsDisabled"), (269, u "MIN_ARRAY_SORT_GRAN"), (0, u "I"), (2, u "INSERTIONSORT_THRESHOLD"), (120, u "fill"), (4, u "([II)V"), (129, .class_ 976), (0, u "java/util/Arrays$ArrayItr")] 52

def k3m0 : Method := { name := "<init>", desc := "()V", sig := { parameters := [], returnType := none }, accessFlags := 2, code := none }
def k3c1 : Code := { maxStack := 3, maxLocals := 4, code := jdk_65_method_103_code, exceptionTable := #[], attributes := #[] }
def k3m1 : Method := { name := "fill", desc := "([II)V", sig := { parameters := [(.array .int), .int], returnType := none }, accessFlags := 9, code := some k3c1 }
/-- java/util/Arrays -/
def k3 : Class := { plain "java/util/Arrays" (some 0) with
  accessFlags := 49
  interfaces := #[]
  cf := some (fileOf pool3 14 #[.nestMembers #[975, 375, 113, 74]] #[{ accessFlags := 2, nameIndex := 5, descriptorIndex := 6, attributes := #[] }, { accessFlags := 9, nameIndex := 840, descriptorIndex := 845, attributes := #[] }] 49 2 #[] #[{ accessFlags := 26, nameIndex := 715, descriptorIndex := 716, attributes := #[] }, { accessFlags := 26, nameIndex := 719, descriptorIndex := 716, attributes := #[] }, { accessFlags := 4120, nameIndex := 445, descriptorIndex := 117, attributes := #[] }])
  fields := #[{ name := "MIN_ARRAY_SORT_GRAN", type := .int, accessFlags := 26, slot := 0, constantValue := 0 }, { name := "INSERTIONSORT_THRESHOLD", type := .int, accessFlags := 26, slot := 1, constantValue := 0 }, { name := "$assertionsDisabled", type := .boolean, accessFlags := 4120, slot := 2, constantValue := 0 }]
  methods := #[k3m0, k3m1]
  instanceTypes := #[]
  staticTypes := #[.int, .int, .boolean]
  resolved := Array.replicate 1029 none
  statics := none }

def pool4 : Array CpInfo := pool [(1, u "java/lang/Cloneable"), (0, .class_ 1), (0, u "java/lang/Object"), (0, .class_ 3)] 3

/-- java/lang/Cloneable -/
def k4 : Class := { plain "java/lang/Cloneable" (some 0) with
  accessFlags := 1537
  interfaces := #[]
  cf := some (fileOf pool4 2 #[] #[] 1537 4 #[] #[])
  fields := #[]
  methods := #[]
  instanceTypes := #[]
  staticTypes := #[]
  resolved := Array.replicate 8 none
  statics := none }

def pool5 : Array CpInfo := pool [(1, u "java/io/Serializable"), (0, .class_ 1), (0, u "java/lang/Object"), (0, .class_ 3)] 3

/-- java/io/Serializable -/
def k5 : Class := { plain "java/io/Serializable" (some 0) with
  accessFlags := 1537
  interfaces := #[]
  cf := some (fileOf pool5 2 #[] #[] 1537 4 #[] #[])
  fields := #[]
  methods := #[]
  instanceTypes := #[]
  staticTypes := #[]
  resolved := Array.replicate 8 none
  statics := none }

/-- the primitive byte -/
def k6 : Class := { plain "byte" none with kind := .primitive 'B', accessFlags := 0x411 }
/-- [B -/
def k7 : Class := { plain "[B" (some 0) with kind := .array 6 .byte, interfaces := #[4, 5], accessFlags := 1041 }

/-- the primitive int -/
def k8 : Class := { plain "int" none with kind := .primitive 'I', accessFlags := 0x411 }
/-- [I -/
def k9 : Class := { plain "[I" (some 0) with kind := .array 8 .int, interfaces := #[4, 5], accessFlags := 1041 }

def heap : Heap := #[]
/-- the primitive double -/
def k10 : Class := { plain "double" none with kind := .primitive 'D', accessFlags := 0x411 }
/-- [D -/
def k11 : Class := { plain "[D" (some 0) with kind := .array 10 .double, interfaces := #[4, 5], accessFlags := 1041 }
def classes : Array Class := #[k0, k1, k2, k3, k4, k5, k6, k7, k8, k9, k10, k11]
def interned : List (Array UInt16 × Addr) := []
def slotsUsed : Nat := 0
def theMethod : MethodId := ⟨1, 1⟩
def args0 : Array Value := #[.int 0, .int 1, .int 2, .int 3, .int 4]
def aboutOver (below : List Frame) : State where
  vm := { classes := classes, interned := interned.toArray }
  heap := heap
  slotsUsed := slotsUsed
  threads := #[{ frames := .invoking theMethod args0 :: below }]
def below0 : List Frame := [.native { method := ⟨0, 0⟩, args := #[] }]
def about1 : State := aboutOver below0
def p0 : Program := .bare "" "" ""
def e0 : Env := launch0.env 0 0 0
theorem w_frames : about1.frames = Frame.invoking theMethod args0 :: below0 := rfl
set_option maxRecDepth 65536 in
theorem w_args : argsFit about1.vm theMethod args0 = true := by decide +kernel
set_option maxRecDepth 65536 in
theorem w_heap : heapFits about1 = true := by decide +kernel
set_option maxRecDepth 65536 in
theorem w_runnable : about1.curStatus? = some .runnable := by decide +kernel
set_option maxRecDepth 65536 in
theorem w_alone : about1.alone = true := by decide +kernel
set_option maxRecDepth 65536 in
theorem w_named : about1.methodNamed? x = some theMethod := by decide +kernel
set_option maxRecDepth 65536 in
theorem w_hears : about1.hears theMethod below0 = true := by decide +kernel
set_option maxRecDepth 65536 in
theorem w_ripe : about1.ripe theMethod args0 below0 = true := by decide +kernel
theorem w_running : about1.status = .running := rfl
set_option maxRecDepth 65536 in
theorem w_room : about1.hasRoom e0.platform room_1 = true :=
  launch0.hasRoom_least _ room_1 (by decide +kernel) (by decide +kernel) (by decide +kernel) (by decide +kernel) (by decide +kernel) (by decide +kernel)
theorem allAtoms_all (ts : List Jvm.Cond) (a : Array Jvm.Value) (st : Jvm.State) : (allAtoms ts).before a st = ts.all (fun c => c.before a st) := by
  induction ts with
  | nil => rfl
  | cons c t ih =>
    show (Jvm.Cond.and c (allAtoms t)).before a st = _
    rw [Jvm.Cond.before_and, ih, List.all_cons]
def words1 : List Jvm.Cond := Jvm.Cond.code x code maxLocals ret :: tables_1
/-- a 'code' word, met by the world's own term for the bytes: nothing is compared byte by byte -/
theorem code_word {y : MethodName} {bytes : ByteArray} {mx : Nat} {rt : Option FieldType} {a : Array Value} {s : State} {m : MethodId} {meth : Method} {c : Code} (h1 : s.methodNamed? y = some m) (h2 : s.vm.method? m = some meth) (h3 : meth.code = some c) (h4 : c.code = bytes)
    (h5 : (c.maxLocals == mx && c.exceptionTable.isEmpty && decide (c.maxStack ≤ mostOperands) && decide (meth.sig.returnType = rt) && !meth.locks && decide (parseMethodDescriptor y.desc = some meth.sig)) = true) : (Jvm.Cond.code y bytes mx rt).before a s = true := by
  simp only [Bool.and_eq_true, beq_iff_eq, Bool.not_eq_true', decide_eq_true_eq] at h5
  obtain ⟨⟨⟨⟨⟨g1, g2⟩, g3⟩, g4⟩, g5⟩, g6⟩ := h5
  simp [Cond.before, Cond.holds, Cond.value, h1, h2, h3, h4, g1, g2, g3, g4, g5, g6]
def isCode : Jvm.Cond → Bool
  | .code _ _ _ _ => true
  | _ => false
theorem all_split {L : List Jvm.Cond} {P : Jvm.Cond → Bool} (h1 : L.all (fun c => isCode c || P c) = true) (h2 : ∀ c ∈ L.filter isCode, P c = true) : L.all P = true := by
  refine List.all_eq_true.mpr fun c hc => ?_
  have h := List.all_eq_true.mp h1 c hc
  rcases Bool.eq_false_or_eq_true (isCode c) with hi | hi
  · exact h2 c (List.mem_filter.mpr ⟨hc, hi⟩)
  · simpa [hi] using h
set_option maxRecDepth 65536 in
theorem w_c0 : (Jvm.Cond.code x code maxLocals ret).before args0 about1 = true := code_word (m := ⟨1, 1⟩) (meth := k1m1) (c := k1c1) (by decide +kernel) rfl rfl rfl (by decide +kernel)
set_option maxRecDepth 65536 in
theorem w_c1 : (Jvm.Cond.code ({ cls := "com/example/stummel/stummel/geometry/PendingCrossingsCancelPinLaw", name := "expected", desc := "(IIIIII)[I" } : Jvm.MethodName) method_4_code (8 : Nat) (Option.some (Jvm.ClassFile.FieldType.array Jvm.ClassFile.FieldType.int))).before args0 about1 = true := code_word (m := ⟨1, 3⟩) (meth := k1m3) (c := k1c3) (by decide +kernel) rfl rfl rfl (by decide +kernel)
set_option maxRecDepth 65536 in
theorem w_c2 : (Jvm.Cond.code ({ cls := "com/example/stummel/stummel/geometry/PendingCrossings", name := "<init>", desc := "(I[I[D[D)V" } : Jvm.MethodName) prog_7_method_1_code (5 : Nat) (Option.none : Option Jvm.ClassFile.FieldType)).before args0 about1 = true := code_word (m := ⟨2, 0⟩) (meth := k2m0) (c := k2c0) (by decide +kernel) rfl rfl rfl (by decide +kernel)
set_option maxRecDepth 65536 in
theorem w_c3 : (Jvm.Cond.code ({ cls := "java/lang/Object", name := "<init>", desc := "()V" } : Jvm.MethodName) object_method_1_code (1 : Nat) (Option.none : Option Jvm.ClassFile.FieldType)).before args0 about1 = true := code_word (m := ⟨0, 0⟩) (meth := k0m0) (c := k0c0) (by decide +kernel) rfl rfl rfl (by decide +kernel)
set_option maxRecDepth 65536 in
theorem w_c4 : (Jvm.Cond.code ({ cls := "java/util/Arrays", name := "fill", desc := "([II)V" } : Jvm.MethodName) jdk_65_method_103_code (4 : Nat) (Option.none : Option Jvm.ClassFile.FieldType)).before args0 about1 = true := code_word (m := ⟨3, 1⟩) (meth := k3m1) (c := k3c1) (by decide +kernel) rfl rfl rfl (by decide +kernel)
set_option maxRecDepth 65536 in
theorem w_c5 : (Jvm.Cond.code ({ cls := "com/example/stummel/stummel/geometry/PendingCrossingsCancelPinLaw", name := "addIf", desc := "(Lcom/example/stummel/stummel/geometry/PendingCrossings;II)V" } : Jvm.MethodName) method_3_code (3 : Nat) (Option.none : Option Jvm.ClassFile.FieldType)).before args0 about1 = true := code_word (m := ⟨1, 2⟩) (meth := k1m2) (c := k1c2) (by decide +kernel) rfl rfl rfl (by decide +kernel)
set_option maxRecDepth 65536 in
theorem w_c6 : (Jvm.Cond.code ({ cls := "com/example/stummel/stummel/geometry/PendingCrossings", name := "add", desc := "(IDDI)V" } : Jvm.MethodName) prog_7_method_2_code (8 : Nat) (Option.none : Option Jvm.ClassFile.FieldType)).before args0 about1 = true := code_word (m := ⟨2, 1⟩) (meth := k2m1) (c := k2c1) (by decide +kernel) rfl rfl rfl (by decide +kernel)
set_option maxRecDepth 65536 in
theorem w_c7 : (Jvm.Cond.code ({ cls := "com/example/stummel/stummel/geometry/PendingCrossings", name := "firstNotBefore", desc := "(DDI)I" } : Jvm.MethodName) prog_7_method_5_code (12 : Nat) (Option.some Jvm.ClassFile.FieldType.int)).before args0 about1 = true := code_word (m := ⟨2, 4⟩) (meth := k2m4) (c := k2c4) (by decide +kernel) rfl rfl rfl (by decide +kernel)
set_option maxRecDepth 65536 in
theorem w_c8 : (Jvm.Cond.code ({ cls := "com/example/stummel/stummel/geometry/PendingCrossings", name := "comesBefore", desc := "(IDD)Z" } : Jvm.MethodName) prog_7_method_6_code (7 : Nat) (Option.some Jvm.ClassFile.FieldType.boolean)).before args0 about1 = true := code_word (m := ⟨2, 5⟩) (meth := k2m5) (c := k2c5) (by decide +kernel) rfl rfl rfl (by decide +kernel)
set_option maxRecDepth 65536 in
theorem w_c9 : (Jvm.Cond.code ({ cls := "com/example/stummel/stummel/geometry/PendingCrossings", name := "cancel", desc := "(I)V" } : Jvm.MethodName) prog_7_method_3_code (3 : Nat) (Option.none : Option Jvm.ClassFile.FieldType)).before args0 about1 = true := code_word (m := ⟨2, 2⟩) (meth := k2m2) (c := k2c2) (by decide +kernel) rfl rfl rfl (by decide +kernel)
set_option maxRecDepth 65536 in
theorem w_c10 : (Jvm.Cond.code ({ cls := "com/example/stummel/stummel/geometry/PendingCrossingsCancelPinLaw", name := "drains", desc := "(Lcom/example/stummel/stummel/geometry/PendingCrossings;I[I)Z" } : Jvm.MethodName) method_5_code (3 : Nat) (Option.some Jvm.ClassFile.FieldType.boolean)).before args0 about1 = true := code_word (m := ⟨1, 4⟩) (meth := k1m4) (c := k1c4) (by decide +kernel) rfl rfl rfl (by decide +kernel)
set_option maxRecDepth 65536 in
theorem w_c11 : (Jvm.Cond.code ({ cls := "com/example/stummel/stummel/geometry/PendingCrossings", name := "takeDue", desc := "(I)I" } : Jvm.MethodName) prog_7_method_4_code (3 : Nat) (Option.some Jvm.ClassFile.FieldType.int)).before args0 about1 = true := code_word (m := ⟨2, 3⟩) (meth := k2m3) (c := k2c3) (by decide +kernel) rfl rfl rfl (by decide +kernel)
def codes1 : List Jvm.Cond := [Jvm.Cond.code x code maxLocals ret, Jvm.Cond.code ({ cls := "com/example/stummel/stummel/geometry/PendingCrossingsCancelPinLaw", name := "expected", desc := "(IIIIII)[I" } : Jvm.MethodName) method_4_code (8 : Nat) (Option.some (Jvm.ClassFile.FieldType.array Jvm.ClassFile.FieldType.int)), Jvm.Cond.code ({ cls := "com/example/stummel/stummel/geometry/PendingCrossings", name := "<init>", desc := "(I[I[D[D)V" } : Jvm.MethodName) prog_7_method_1_code (5 : Nat) (Option.none : Option Jvm.ClassFile.FieldType), Jvm.Cond.code ({ cls := "java/lang/Object", name := "<init>", desc := "()V" } : Jvm.MethodName) object_method_1_code (1 : Nat) (Option.none : Option Jvm.ClassFile.FieldType), Jvm.Cond.code ({ cls := "java/util/Arrays", name := "fill", desc := "([II)V" } : Jvm.MethodName) jdk_65_method_103_code (4 : Nat) (Option.none : Option Jvm.ClassFile.FieldType), Jvm.Cond.code ({ cls := "com/example/stummel/stummel/geometry/PendingCrossingsCancelPinLaw", name := "addIf", desc := "(Lcom/example/stummel/stummel/geometry/PendingCrossings;II)V" } : Jvm.MethodName) method_3_code (3 : Nat) (Option.none : Option Jvm.ClassFile.FieldType), Jvm.Cond.code ({ cls := "com/example/stummel/stummel/geometry/PendingCrossings", name := "add", desc := "(IDDI)V" } : Jvm.MethodName) prog_7_method_2_code (8 : Nat) (Option.none : Option Jvm.ClassFile.FieldType), Jvm.Cond.code ({ cls := "com/example/stummel/stummel/geometry/PendingCrossings", name := "firstNotBefore", desc := "(DDI)I" } : Jvm.MethodName) prog_7_method_5_code (12 : Nat) (Option.some Jvm.ClassFile.FieldType.int), Jvm.Cond.code ({ cls := "com/example/stummel/stummel/geometry/PendingCrossings", name := "comesBefore", desc := "(IDD)Z" } : Jvm.MethodName) prog_7_method_6_code (7 : Nat) (Option.some Jvm.ClassFile.FieldType.boolean), Jvm.Cond.code ({ cls := "com/example/stummel/stummel/geometry/PendingCrossings", name := "cancel", desc := "(I)V" } : Jvm.MethodName) prog_7_method_3_code (3 : Nat) (Option.none : Option Jvm.ClassFile.FieldType), Jvm.Cond.code ({ cls := "com/example/stummel/stummel/geometry/PendingCrossingsCancelPinLaw", name := "drains", desc := "(Lcom/example/stummel/stummel/geometry/PendingCrossings;I[I)Z" } : Jvm.MethodName) method_5_code (3 : Nat) (Option.some Jvm.ClassFile.FieldType.boolean), Jvm.Cond.code ({ cls := "com/example/stummel/stummel/geometry/PendingCrossings", name := "takeDue", desc := "(I)I" } : Jvm.MethodName) prog_7_method_4_code (3 : Nat) (Option.some Jvm.ClassFile.FieldType.int)]
set_option maxRecDepth 65536 in
theorem codes_eq : words1.filter isCode = codes1 := rfl
theorem w_codes : ∀ c ∈ words1.filter isCode, c.before args0 about1 = true := by
  rw [codes_eq]
  intro c hc
  simp only [codes1, List.mem_cons, List.not_mem_nil, or_false] at hc
  rcases hc with rfl | rfl | rfl | rfl | rfl | rfl | rfl | rfl | rfl | rfl | rfl | rfl
  · exact w_c0
  · exact w_c1
  · exact w_c2
  · exact w_c3
  · exact w_c4
  · exact w_c5
  · exact w_c6
  · exact w_c7
  · exact w_c8
  · exact w_c9
  · exact w_c10
  · exact w_c11
set_option maxRecDepth 65536 in
theorem w_t1 : (words1.take 24).all (fun c => isCode c || c.before args0 about1) = true := by decide +kernel
set_option maxRecDepth 65536 in
theorem w_t2 : ((words1.drop 24).take 24).all (fun c => isCode c || c.before args0 about1) = true := by decide +kernel
set_option maxRecDepth 65536 in
theorem w_t3 : ((words1.drop 24).drop 24).all (fun c => isCode c || c.before args0 about1) = true := by decide +kernel
theorem w_tables : (allAtoms (Jvm.Cond.code x code maxLocals ret :: tables_1)).before args0 about1 = true := by
  rw [allAtoms_all]
  show words1.all (fun c => c.before args0 about1) = true
  refine all_split ?_ w_codes
  rw [← List.take_append_drop 24 words1, List.all_append, w_t1, ← List.take_append_drop 24 (words1.drop 24), List.all_append, w_t2, w_t3]
  rfl
set_option maxRecDepth 65536 in
theorem w_case : (Jvm.Cond.and given_1 narrow_1).before args0 about1 = true := by decide +kernel
theorem w_applies : (headSpec (Jvm.Cond.code x code maxLocals ret :: tables_1) room_1).applies x e0.platform about1 = true :=
  (Spec.applies_iff w_frames).mpr ⟨w_running, w_runnable, w_alone, w_named, w_hears, w_ripe, w_room, w_tables⟩
theorem atStart : AtStart classFile x code maxLocals ret World_1 tables_1 room_1 Calls_1 rest_1 Pre_1 launch0 p0 e0 about1 theMethod args0 below0 :=
  ⟨lists_1, trivial, launch0.admits_env _ _ _, launch0.least_env, fairChoices_fair.cas, fairChoices_fair.clock, w_frames, w_args, w_heap, w_applies, trivial, trivial, w_case⟩
end start1
theorem witness_1 : WitnessClaimed_1 := ⟨start1.p0, start1.e0, start1.about1, start1.theMethod, start1.args0, start1.below0, start1.atStart⟩
end Jvm.Pilot.@@N@@
