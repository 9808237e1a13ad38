/- The plain law of joined texts; a frame of 108 slots written out. Condition: texts of 2000 bytes at most, 800 of them at most. -/
import Derived.Test.YtaockngppbeanaaGreatDoorImplJoin
namespace Go.Proofs.YtaockngppbeanaaGreatDoor
open Go.RowKit

theorem js_congr {sep : T2} {f g : Nat → T2} : ∀ {k : Nat}, (∀ i, i < k → f i = g i) → js sep f k = js sep g k
  | 0, _ => rfl
  | k + 1, h => by
    rw [js, js, js_congr (fun i hi => h i (by omega)), h k (by omega)]

theorem cat_js_add (sep : T2) (f : Nat → T2) (n : Nat) (hn : 0 < n) : ∀ m, cat (js sep f (n + (m + 1))) = cat (js sep f n) ++ sep.1.data.toList ++ cat (js sep (fun i => f (n + i)) (m + 1))
  | 0 => by
    have e : ahead2 sep n = sep := if_neg (by omega)
    have e0 : ahead2 sep 0 = e2 := if_pos rfl
    show cat (js sep f n ++ [ahead2 sep n] ++ [f n]) = _
    rw [cat_snoc, cat_snoc, e]
    show _ = _ ++ cat ([] ++ [ahead2 sep 0] ++ [f (n + 0)])
    rw [cat_snoc, cat_snoc, e0]
    simp [cat, e2]
  | m + 1 => by
    have e : ahead2 sep (n + (m + 1)) = sep := if_neg (by omega)
    have e1 : ahead2 sep (m + 1) = sep := if_neg (by omega)
    show cat (js sep f (n + (m + 1)) ++ [ahead2 sep (n + (m + 1))] ++ [f (n + (m + 1))]) = _
    rw [cat_snoc, cat_snoc, e, cat_js_add sep f n hn m]
    show _ = _ ++ cat (js sep (fun i => f (n + i)) (m + 1) ++ [ahead2 sep (m + 1)] ++ [f (n + (m + 1))])
    rw [cat_snoc, cat_snoc, e1]
    simp only [List.append_assoc]

theorem joinB_append (sep : T2) (A B : List ByteArray) (hA : ∀ s ∈ A, s.size ≤ 2000) (hB : ∀ s ∈ B, s.size ≤ 2000) (h : ∀ s ∈ A ++ B, s.size ≤ 2000) (ha : 0 < A.length) (hb : 0 < B.length) :
    joinB sep (fT (A ++ B) h) (A ++ B).length = joinB sep (fT A hA) A.length ++ sep.1 ++ joinB sep (fT B hB) B.length := by
  obtain ⟨m, hm⟩ : ∃ m, B.length = m + 1 := ⟨B.length - 1, by omega⟩
  have e1 : js sep (fT (A ++ B) h) A.length = js sep (fT A hA) A.length := js_congr fun i hi => by
    refine Subtype.ext ?_
    show (A ++ B).getD i _ = A.getD i _
    rw [List.getD_eq_getElem?_getD, List.getD_eq_getElem?_getD, List.getElem?_append_left hi]
  have e2 : js sep (fun i => fT (A ++ B) h (A.length + i)) (m + 1) = js sep (fT B hB) (m + 1) := js_congr fun i hi => by
    refine Subtype.ext ?_
    show (A ++ B).getD (A.length + i) _ = B.getD i _
    rw [List.getD_eq_getElem?_getD, List.getD_eq_getElem?_getD, List.getElem?_append_right (by omega), Nat.add_sub_cancel_left]
  have key : ∀ a b : ByteArray, a.data = b.data → a = b := fun a b h => by cases a; cases b; simp_all
  refine key _ _ ?_
  rw [ByteArray.data_append, ByteArray.data_append, List.length_append, hm]
  show (cat (js sep (fT (A ++ B) h) (A.length + (m + 1)))).toArray = (cat (js sep (fT A hA) A.length)).toArray ++ sep.1.data ++ (cat (js sep (fT B hB) (m + 1))).toArray
  rw [cat_js_add sep _ _ ha m, e1, e2]
  simp
end Go.Proofs.YtaockngppbeanaaGreatDoor

namespace Go.Proofs.YtaockngppbeanaaGreatDoor
open Go.RowKit

theorem len_succ {α : Type} {l : List α} {n : Nat} (h : l.length = n + 1) : ∃ x r, l = x :: r ∧ r.length = n := by
  cases l with
  | nil => simp at h
  | cons x r => exact ⟨x, r, rfl, by simpa using h⟩

set_option maxRecDepth 100000 in
set_option maxHeartbeats 4000000 in
theorem arr108 {t : Array Value} (h : t.size = 108) : ∃ x0 x1 x2 x3 x4 x5 x6 x7 x8 x9 x10 x11 x12 x13 x14 x15 x16 x17 x18 x19 x20 x21 x22 x23 x24 x25 x26 x27 x28 x29 x30 x31 x32 x33 x34 x35 x36 x37 x38 x39 x40 x41 x42 x43 x44 x45 x46 x47 x48 x49 x50 x51 x52 x53 x54 x55 x56 x57 x58 x59 x60 x61 x62 x63 x64 x65 x66 x67 x68 x69 x70 x71 x72 x73 x74 x75 x76 x77 x78 x79 x80 x81 x82 x83 x84 x85 x86 x87 x88 x89 x90 x91 x92 x93 x94 x95 x96 x97 x98 x99 x100 x101 x102 x103 x104 x105 x106 x107, t = #[x0, x1, x2, x3, x4, x5, x6, x7, x8, x9, x10, x11, x12, x13, x14, x15, x16, x17, x18, x19, x20, x21, x22, x23, x24, x25, x26, x27, x28, x29, x30, x31, x32, x33, x34, x35, x36, x37, x38, x39, x40, x41, x42, x43, x44, x45, x46, x47, x48, x49, x50, x51, x52, x53, x54, x55, x56, x57, x58, x59, x60, x61, x62, x63, x64, x65, x66, x67, x68, x69, x70, x71, x72, x73, x74, x75, x76, x77, x78, x79, x80, x81, x82, x83, x84, x85, x86, x87, x88, x89, x90, x91, x92, x93, x94, x95, x96, x97, x98, x99, x100, x101, x102, x103, x104, x105, x106, x107] := by
  obtain ⟨l⟩ := t
  replace h : l.length = 108 := h
  obtain ⟨x0, l0, rfl, h0⟩ := len_succ h
  clear h
  obtain ⟨x1, l1, rfl, h1⟩ := len_succ h0
  clear h0
  obtain ⟨x2, l2, rfl, h2⟩ := len_succ h1
  clear h1
  obtain ⟨x3, l3, rfl, h3⟩ := len_succ h2
  clear h2
  obtain ⟨x4, l4, rfl, h4⟩ := len_succ h3
  clear h3
  obtain ⟨x5, l5, rfl, h5⟩ := len_succ h4
  clear h4
  obtain ⟨x6, l6, rfl, h6⟩ := len_succ h5
  clear h5
  obtain ⟨x7, l7, rfl, h7⟩ := len_succ h6
  clear h6
  obtain ⟨x8, l8, rfl, h8⟩ := len_succ h7
  clear h7
  obtain ⟨x9, l9, rfl, h9⟩ := len_succ h8
  clear h8
  obtain ⟨x10, l10, rfl, h10⟩ := len_succ h9
  clear h9
  obtain ⟨x11, l11, rfl, h11⟩ := len_succ h10
  clear h10
  obtain ⟨x12, l12, rfl, h12⟩ := len_succ h11
  clear h11
  obtain ⟨x13, l13, rfl, h13⟩ := len_succ h12
  clear h12
  obtain ⟨x14, l14, rfl, h14⟩ := len_succ h13
  clear h13
  obtain ⟨x15, l15, rfl, h15⟩ := len_succ h14
  clear h14
  obtain ⟨x16, l16, rfl, h16⟩ := len_succ h15
  clear h15
  obtain ⟨x17, l17, rfl, h17⟩ := len_succ h16
  clear h16
  obtain ⟨x18, l18, rfl, h18⟩ := len_succ h17
  clear h17
  obtain ⟨x19, l19, rfl, h19⟩ := len_succ h18
  clear h18
  obtain ⟨x20, l20, rfl, h20⟩ := len_succ h19
  clear h19
  obtain ⟨x21, l21, rfl, h21⟩ := len_succ h20
  clear h20
  obtain ⟨x22, l22, rfl, h22⟩ := len_succ h21
  clear h21
  obtain ⟨x23, l23, rfl, h23⟩ := len_succ h22
  clear h22
  obtain ⟨x24, l24, rfl, h24⟩ := len_succ h23
  clear h23
  obtain ⟨x25, l25, rfl, h25⟩ := len_succ h24
  clear h24
  obtain ⟨x26, l26, rfl, h26⟩ := len_succ h25
  clear h25
  obtain ⟨x27, l27, rfl, h27⟩ := len_succ h26
  clear h26
  obtain ⟨x28, l28, rfl, h28⟩ := len_succ h27
  clear h27
  obtain ⟨x29, l29, rfl, h29⟩ := len_succ h28
  clear h28
  obtain ⟨x30, l30, rfl, h30⟩ := len_succ h29
  clear h29
  obtain ⟨x31, l31, rfl, h31⟩ := len_succ h30
  clear h30
  obtain ⟨x32, l32, rfl, h32⟩ := len_succ h31
  clear h31
  obtain ⟨x33, l33, rfl, h33⟩ := len_succ h32
  clear h32
  obtain ⟨x34, l34, rfl, h34⟩ := len_succ h33
  clear h33
  obtain ⟨x35, l35, rfl, h35⟩ := len_succ h34
  clear h34
  obtain ⟨x36, l36, rfl, h36⟩ := len_succ h35
  clear h35
  obtain ⟨x37, l37, rfl, h37⟩ := len_succ h36
  clear h36
  obtain ⟨x38, l38, rfl, h38⟩ := len_succ h37
  clear h37
  obtain ⟨x39, l39, rfl, h39⟩ := len_succ h38
  clear h38
  obtain ⟨x40, l40, rfl, h40⟩ := len_succ h39
  clear h39
  obtain ⟨x41, l41, rfl, h41⟩ := len_succ h40
  clear h40
  obtain ⟨x42, l42, rfl, h42⟩ := len_succ h41
  clear h41
  obtain ⟨x43, l43, rfl, h43⟩ := len_succ h42
  clear h42
  obtain ⟨x44, l44, rfl, h44⟩ := len_succ h43
  clear h43
  obtain ⟨x45, l45, rfl, h45⟩ := len_succ h44
  clear h44
  obtain ⟨x46, l46, rfl, h46⟩ := len_succ h45
  clear h45
  obtain ⟨x47, l47, rfl, h47⟩ := len_succ h46
  clear h46
  obtain ⟨x48, l48, rfl, h48⟩ := len_succ h47
  clear h47
  obtain ⟨x49, l49, rfl, h49⟩ := len_succ h48
  clear h48
  obtain ⟨x50, l50, rfl, h50⟩ := len_succ h49
  clear h49
  obtain ⟨x51, l51, rfl, h51⟩ := len_succ h50
  clear h50
  obtain ⟨x52, l52, rfl, h52⟩ := len_succ h51
  clear h51
  obtain ⟨x53, l53, rfl, h53⟩ := len_succ h52
  clear h52
  obtain ⟨x54, l54, rfl, h54⟩ := len_succ h53
  clear h53
  obtain ⟨x55, l55, rfl, h55⟩ := len_succ h54
  clear h54
  obtain ⟨x56, l56, rfl, h56⟩ := len_succ h55
  clear h55
  obtain ⟨x57, l57, rfl, h57⟩ := len_succ h56
  clear h56
  obtain ⟨x58, l58, rfl, h58⟩ := len_succ h57
  clear h57
  obtain ⟨x59, l59, rfl, h59⟩ := len_succ h58
  clear h58
  obtain ⟨x60, l60, rfl, h60⟩ := len_succ h59
  clear h59
  obtain ⟨x61, l61, rfl, h61⟩ := len_succ h60
  clear h60
  obtain ⟨x62, l62, rfl, h62⟩ := len_succ h61
  clear h61
  obtain ⟨x63, l63, rfl, h63⟩ := len_succ h62
  clear h62
  obtain ⟨x64, l64, rfl, h64⟩ := len_succ h63
  clear h63
  obtain ⟨x65, l65, rfl, h65⟩ := len_succ h64
  clear h64
  obtain ⟨x66, l66, rfl, h66⟩ := len_succ h65
  clear h65
  obtain ⟨x67, l67, rfl, h67⟩ := len_succ h66
  clear h66
  obtain ⟨x68, l68, rfl, h68⟩ := len_succ h67
  clear h67
  obtain ⟨x69, l69, rfl, h69⟩ := len_succ h68
  clear h68
  obtain ⟨x70, l70, rfl, h70⟩ := len_succ h69
  clear h69
  obtain ⟨x71, l71, rfl, h71⟩ := len_succ h70
  clear h70
  obtain ⟨x72, l72, rfl, h72⟩ := len_succ h71
  clear h71
  obtain ⟨x73, l73, rfl, h73⟩ := len_succ h72
  clear h72
  obtain ⟨x74, l74, rfl, h74⟩ := len_succ h73
  clear h73
  obtain ⟨x75, l75, rfl, h75⟩ := len_succ h74
  clear h74
  obtain ⟨x76, l76, rfl, h76⟩ := len_succ h75
  clear h75
  obtain ⟨x77, l77, rfl, h77⟩ := len_succ h76
  clear h76
  obtain ⟨x78, l78, rfl, h78⟩ := len_succ h77
  clear h77
  obtain ⟨x79, l79, rfl, h79⟩ := len_succ h78
  clear h78
  obtain ⟨x80, l80, rfl, h80⟩ := len_succ h79
  clear h79
  obtain ⟨x81, l81, rfl, h81⟩ := len_succ h80
  clear h80
  obtain ⟨x82, l82, rfl, h82⟩ := len_succ h81
  clear h81
  obtain ⟨x83, l83, rfl, h83⟩ := len_succ h82
  clear h82
  obtain ⟨x84, l84, rfl, h84⟩ := len_succ h83
  clear h83
  obtain ⟨x85, l85, rfl, h85⟩ := len_succ h84
  clear h84
  obtain ⟨x86, l86, rfl, h86⟩ := len_succ h85
  clear h85
  obtain ⟨x87, l87, rfl, h87⟩ := len_succ h86
  clear h86
  obtain ⟨x88, l88, rfl, h88⟩ := len_succ h87
  clear h87
  obtain ⟨x89, l89, rfl, h89⟩ := len_succ h88
  clear h88
  obtain ⟨x90, l90, rfl, h90⟩ := len_succ h89
  clear h89
  obtain ⟨x91, l91, rfl, h91⟩ := len_succ h90
  clear h90
  obtain ⟨x92, l92, rfl, h92⟩ := len_succ h91
  clear h91
  obtain ⟨x93, l93, rfl, h93⟩ := len_succ h92
  clear h92
  obtain ⟨x94, l94, rfl, h94⟩ := len_succ h93
  clear h93
  obtain ⟨x95, l95, rfl, h95⟩ := len_succ h94
  clear h94
  obtain ⟨x96, l96, rfl, h96⟩ := len_succ h95
  clear h95
  obtain ⟨x97, l97, rfl, h97⟩ := len_succ h96
  clear h96
  obtain ⟨x98, l98, rfl, h98⟩ := len_succ h97
  clear h97
  obtain ⟨x99, l99, rfl, h99⟩ := len_succ h98
  clear h98
  obtain ⟨x100, l100, rfl, h100⟩ := len_succ h99
  clear h99
  obtain ⟨x101, l101, rfl, h101⟩ := len_succ h100
  clear h100
  obtain ⟨x102, l102, rfl, h102⟩ := len_succ h101
  clear h101
  obtain ⟨x103, l103, rfl, h103⟩ := len_succ h102
  clear h102
  obtain ⟨x104, l104, rfl, h104⟩ := len_succ h103
  clear h103
  obtain ⟨x105, l105, rfl, h105⟩ := len_succ h104
  clear h104
  obtain ⟨x106, l106, rfl, h106⟩ := len_succ h105
  clear h105
  obtain ⟨x107, l107, rfl, h107⟩ := len_succ h106
  clear h106
  obtain rfl := List.eq_nil_of_length_eq_zero h107
  exact ⟨x0, x1, x2, x3, x4, x5, x6, x7, x8, x9, x10, x11, x12, x13, x14, x15, x16, x17, x18, x19, x20, x21, x22, x23, x24, x25, x26, x27, x28, x29, x30, x31, x32, x33, x34, x35, x36, x37, x38, x39, x40, x41, x42, x43, x44, x45, x46, x47, x48, x49, x50, x51, x52, x53, x54, x55, x56, x57, x58, x59, x60, x61, x62, x63, x64, x65, x66, x67, x68, x69, x70, x71, x72, x73, x74, x75, x76, x77, x78, x79, x80, x81, x82, x83, x84, x85, x86, x87, x88, x89, x90, x91, x92, x93, x94, x95, x96, x97, x98, x99, x100, x101, x102, x103, x104, x105, x106, x107, rfl⟩

theorem joinB_size (sep : T2) (f : Nat → T2) (n : Nat) (hn : n ≤ 800) : (joinB sep f n).size ≤ 140737488351232 := by
  have h1 := cat_len (js sep f n)
  rw [js_length] at h1
  have h2 : (joinB sep f n).size = (cat (js sep f n)).length := rfl
  omega
end Go.Proofs.YtaockngppbeanaaGreatDoor
