/-
  More frames, slot by slot.
-/
import Derived.Test.YtgomodhhomekpaaFrame
namespace Go.Proofs.Ytgomodhhomekpaa
open Go.RowKit
set_option maxRecDepth 100000 in
theorem lit10 (a : Act) (h : Frm 10 a) : a = ⟨#[G a 0, G a 1, G a 2, G a 3, G a 4, G a 5, G a 6, G a 7, G a 8, G a 9], []⟩ := lit_of a h
set_option maxRecDepth 100000 in
theorem lit11 (a : Act) (h : Frm 11 a) : a = ⟨#[G a 0, G a 1, G a 2, G a 3, G a 4, G a 5, G a 6, G a 7, G a 8, G a 9, G a 10], []⟩ := lit_of a h
set_option maxRecDepth 100000 in
theorem lit14 (a : Act) (h : Frm 14 a) : a = ⟨#[G a 0, G a 1, G a 2, G a 3, G a 4, G a 5, G a 6, G a 7, G a 8, G a 9, G a 10, G a 11, G a 12, G a 13], []⟩ := lit_of a h
set_option maxRecDepth 100000 in
theorem lit16 (a : Act) (h : Frm 16 a) : a = ⟨#[G a 0, G a 1, G a 2, G a 3, G a 4, G a 5, G a 6, G a 7, G a 8, G a 9, G a 10, G a 11, G a 12, G a 13, G a 14, G a 15], []⟩ := lit_of a h
set_option maxRecDepth 100000 in
theorem lit19 (a : Act) (h : Frm 19 a) : a = ⟨#[G a 0, G a 1, G a 2, G a 3, G a 4, G a 5, G a 6, G a 7, G a 8, G a 9, G a 10, G a 11, G a 12, G a 13, G a 14, G a 15, G a 16, G a 17, G a 18], []⟩ := lit_of a h
set_option maxRecDepth 100000 in
theorem lit26 (a : Act) (h : Frm 26 a) : a = ⟨#[G a 0, G a 1, G a 2, G a 3, G a 4, G a 5, G a 6, G a 7, G a 8, G a 9, G a 10, G a 11, G a 12, G a 13, G a 14, G a 15, G a 16, G a 17, G a 18, G a 19, G a 20, G a 21, G a 22, G a 23, G a 24, G a 25], []⟩ := lit_of a h
set_option maxRecDepth 100000 in
theorem lit31 (a : Act) (h : Frm 31 a) : a = ⟨#[G a 0, G a 1, G a 2, G a 3, G a 4, G a 5, G a 6, G a 7, G a 8, G a 9, G a 10, G a 11, G a 12, G a 13, G a 14, G a 15, G a 16, G a 17, G a 18, G a 19, G a 20, G a 21, G a 22, G a 23, G a 24, G a 25, G a 26, G a 27, G a 28, G a 29, G a 30], []⟩ := lit_of a h
set_option maxRecDepth 100000 in
theorem lit47 (a : Act) (h : Frm 47 a) : a = ⟨#[G a 0, G a 1, G a 2, G a 3, G a 4, G a 5, G a 6, G a 7, G a 8, G a 9, G a 10, G a 11, G a 12, G a 13, G a 14, G a 15, G a 16, G a 17, G a 18, G a 19, G a 20, G a 21, G a 22, G a 23, G a 24, G a 25, G a 26, G a 27, G a 28, G a 29, G a 30, G a 31, G a 32, G a 33, G a 34, G a 35, G a 36, G a 37, G a 38, G a 39, G a 40, G a 41, G a 42, G a 43, G a 44, G a 45, G a 46], []⟩ := lit_of a h
set_option maxRecDepth 100000 in
theorem lit70 (a : Act) (h : Frm 70 a) : a = ⟨#[G a 0, G a 1, G a 2, G a 3, G a 4, G a 5, G a 6, G a 7, G a 8, G a 9, G a 10, G a 11, G a 12, G a 13, G a 14, G a 15, G a 16, G a 17, G a 18, G a 19, G a 20, G a 21, G a 22, G a 23, G a 24, G a 25, G a 26, G a 27, G a 28, G a 29, G a 30, G a 31, G a 32, G a 33, G a 34, G a 35, G a 36, G a 37, G a 38, G a 39, G a 40, G a 41, G a 42, G a 43, G a 44, G a 45, G a 46, G a 47, G a 48, G a 49, G a 50, G a 51, G a 52, G a 53, G a 54, G a 55, G a 56, G a 57, G a 58, G a 59, G a 60, G a 61, G a 62, G a 63, G a 64, G a 65, G a 66, G a 67, G a 68, G a 69], []⟩ := lit_of a h
set_option maxRecDepth 100000 in
theorem lit89 (a : Act) (h : Frm 89 a) : a = ⟨#[G a 0, G a 1, G a 2, G a 3, G a 4, G a 5, G a 6, G a 7, G a 8, G a 9, G a 10, G a 11, G a 12, G a 13, G a 14, G a 15, G a 16, G a 17, G a 18, G a 19, G a 20, G a 21, G a 22, G a 23, G a 24, G a 25, G a 26, G a 27, G a 28, G a 29, G a 30, G a 31, G a 32, G a 33, G a 34, G a 35, G a 36, G a 37, G a 38, G a 39, G a 40, G a 41, G a 42, G a 43, G a 44, G a 45, G a 46, G a 47, G a 48, G a 49, G a 50, G a 51, G a 52, G a 53, G a 54, G a 55, G a 56, G a 57, G a 58, G a 59, G a 60, G a 61, G a 62, G a 63, G a 64, G a 65, G a 66, G a 67, G a 68, G a 69, G a 70, G a 71, G a 72, G a 73, G a 74, G a 75, G a 76, G a 77, G a 78, G a 79, G a 80, G a 81, G a 82, G a 83, G a 84, G a 85, G a 86, G a 87, G a 88], []⟩ := lit_of a h
set_option maxRecDepth 100000 in
theorem lit106 (a : Act) (h : Frm 106 a) : a = ⟨#[G a 0, G a 1, G a 2, G a 3, G a 4, G a 5, G a 6, G a 7, G a 8, G a 9, G a 10, G a 11, G a 12, G a 13, G a 14, G a 15, G a 16, G a 17, G a 18, G a 19, G a 20, G a 21, G a 22, G a 23, G a 24, G a 25, G a 26, G a 27, G a 28, G a 29, G a 30, G a 31, G a 32, G a 33, G a 34, G a 35, G a 36, G a 37, G a 38, G a 39, G a 40, G a 41, G a 42, G a 43, G a 44, G a 45, G a 46, G a 47, G a 48, G a 49, G a 50, G a 51, G a 52, G a 53, G a 54, G a 55, G a 56, G a 57, G a 58, G a 59, G a 60, G a 61, G a 62, G a 63, G a 64, G a 65, G a 66, G a 67, G a 68, G a 69, G a 70, G a 71, G a 72, G a 73, G a 74, G a 75, G a 76, G a 77, G a 78, G a 79, G a 80, G a 81, G a 82, G a 83, G a 84, G a 85, G a 86, G a 87, G a 88, G a 89, G a 90, G a 91, G a 92, G a 93, G a 94, G a 95, G a 96, G a 97, G a 98, G a 99, G a 100, G a 101, G a 102, G a 103, G a 104, G a 105], []⟩ := lit_of a h
set_option maxRecDepth 100000 in
theorem lit121 (a : Act) (h : Frm 121 a) : a = ⟨#[G a 0, G a 1, G a 2, G a 3, G a 4, G a 5, G a 6, G a 7, G a 8, G a 9, G a 10, G a 11, G a 12, G a 13, G a 14, G a 15, G a 16, G a 17, G a 18, G a 19, G a 20, G a 21, G a 22, G a 23, G a 24, G a 25, G a 26, G a 27, G a 28, G a 29, G a 30, G a 31, G a 32, G a 33, G a 34, G a 35, G a 36, G a 37, G a 38, G a 39, G a 40, G a 41, G a 42, G a 43, G a 44, G a 45, G a 46, G a 47, G a 48, G a 49, G a 50, G a 51, G a 52, G a 53, G a 54, G a 55, G a 56, G a 57, G a 58, G a 59, G a 60, G a 61, G a 62, G a 63, G a 64, G a 65, G a 66, G a 67, G a 68, G a 69, G a 70, G a 71, G a 72, G a 73, G a 74, G a 75, G a 76, G a 77, G a 78, G a 79, G a 80, G a 81, G a 82, G a 83, G a 84, G a 85, G a 86, G a 87, G a 88, G a 89, G a 90, G a 91, G a 92, G a 93, G a 94, G a 95, G a 96, G a 97, G a 98, G a 99, G a 100, G a 101, G a 102, G a 103, G a 104, G a 105, G a 106, G a 107, G a 108, G a 109, G a 110, G a 111, G a 112, G a 113, G a 114, G a 115, G a 116, G a 117, G a 118, G a 119, G a 120], []⟩ := lit_of a h
end Go.Proofs.Ytgomodhhomekpaa
